import JvmDerived
import JvmDerived.Pilot.@@N@@Statement
import JvmDerived.Pilot.@@N@@Code
set_option linter.unusedVariables false
set_option linter.unusedSimpArgs false
namespace Jvm.RoadKit
open Sem ClassFile Op Lib Jvm.Stand Jvm.Free Jvm.LawKit
section New
variable {p : Program} {l : Launch} {e : Env} {R : Room} {s : State} {m : MethodId} {args : Array Value} {below : List Frame} {meth : Method} {c : Code} {T : State} {locs : List Loc} {cells slots : Nat}
theorem retI (X : Stand p l e R s m args below meth c T locs cells slots) (hx : p.tables.exec = Jvm.exec) {pc : Nat} {Ls : Array Slot} {z : Int32} {rest : List Value} (hret : meth.sig.returnType = some .int) (hd : decode c.code pc = .ok (.ireturn, 1)) {fs : List Frame}
    (hl : ∀ (f : JFrame) (acts : List Action), f.method = m → f.locked = none → f.entered = [] → (doReturn e (T.setTop f) acts (some (.int z))).1 = T.setFrames fs) : Steps p.tables e below (T.setTop (mkF m pc Ls (.int z :: rest))) (T.setFrames fs) := by
  have hm' : T.vm.method? m = some meth := X.method'
  have hn : narrow .int (.int z) = .int z := rfl
  show Steps p.tables e below (T.setTop { method := m, pc := pc, locals := Ls, stack := _ :: rest, locked := none }) _
  jvm_step X.here [X.here.top, hx, hd, hm', hret, hn]
  first | (intro acts; rw [hl _ acts rfl rfl rfl]) | rw [hl _ _ rfl rfl rfl]
  exact Steps.refl _
end New
end Jvm.RoadKit
namespace Jvm.Pilot.@@N@@
open Jvm Jvm.ClassFile Sem Op Lib Jvm.Free Jvm.Stand Jvm.LawKit Jvm.RoadKit Bundle Jvm.Pilot.@@N@@.Jvm.D
theorem ow {a0 : Array Value} {Z : State} (hw : ∀ d ∈ tables_1, d.before a0 Z = true) (i : Nat) {d : Jvm.Cond} (h : tables_1[i]? = some d) : d.before a0 Z = true := hw _ (List.mem_of_getElem? h)
abbrev rr0 : Room := { frames := 0, cells := 0, slots := 0, locals := 0 }
/-- a body that writes nothing and makes nothing: it returns r, the heap as it was -/
def QP (r : Option Value) (h0 : Heap) (n0 : Nat) (v : Option Value) (h : Heap) (L : List Loc) : Prop := v = r ∧ Fr n0 L ∧ h = h0
theorem own_fldI {Z : State} {args : Array Value} {t : Term} {C n d : String} {a : Addr} {k : Int32} (ev : t.eval args Z none [] Z = some (.ref a)) (h : (Jvm.Cond.eq (Term.field t C n d) (Term.int k)).value args Z none Z [] = some true) : Fld Z Z.heap a C n d (.int k) := by
  obtain ⟨x, y, e1, e2, k1, k2⟩ := cmp_v (Or.inl h)
  rw [Term.int_eval] at e2
  cases e2
  obtain ⟨z, rfl⟩ := k2
  have e3 : z = k := by simpa [Cond.value, e1, Term.int_eval] using h
  subst e3
  exact Fld.start ((fld_at ev).symm.trans e1)
theorem own_ne {Z : State} {h : Heap} {a b : Addr} {C n d : String} {v w : Value} (F : Fld Z h a C n d v) (G : Fld Z h b C n d w) (hn : v ≠ w) : ¬ (a = b) := by
  rintro rfl
  obtain ⟨c1, _, _, _, f1, h1, h2, -, -, -, -, h7⟩ := F
  obtain ⟨c2, _, _, _, f2, g1, g2, -, -, -, -, g7⟩ := G
  cases h1.symm.trans g1
  cases h2.symm.trans g2
  exact hn (Option.some.inj (h7.symm.trans g7))
theorem own_selP {s : State} {args args' args'' : Array Value} {y : MethodName} {n : Nat} (hi : (Jvm.Cond.instantiable y.cls n).before args s = true) (hp : (Jvm.Cond.privateMethod y).before args' s = true) (hinst : (Jvm.Cond.instanceMethod y).before args'' s = true) (hy : y.cls ≠ "java/lang/invoke/MethodHandle" ∧ y.cls ≠ "java/lang/invoke/VarHandle") : (Jvm.Cond.selects y.cls y y).before args'' s = true := by
  obtain ⟨c, k, h1, h2, -, h4, -⟩ := Cond.instantiable_spec hi
  exact selects_self_of_private h1 h2 (by simp only [Bool.or_eq_false_iff] at h4; exact h4.1) (Cond.privateMethod_at hp) hinst hy
def AlAt (Z : State) (h : Heap) (a : Addr) (v0 v1 v2 : Value) : Prop := Exa Z h a "java/util/ArrayList" ∧ Fld Z h a "java/util/AbstractList" "modCount" "I" v0 ∧ Fld Z h a "java/util/ArrayList" "elementData" "[Ljava/lang/Object;" v1 ∧ Fld Z h a "java/util/ArrayList" "size" "I" v2
def DuAt (Z : State) (h : Heap) (a : Addr) (v0 v1 : Value) : Prop := Exa Z h a "java/time/Duration" ∧ Fld Z h a "java/time/Duration" "seconds" "J" v0 ∧ Fld Z h a "java/time/Duration" "nanos" "I" v1
def RuAt (Z : State) (h : Heap) (a : Addr) (v0 v1 : Value) : Prop := Exa Z h a "com/example/steady_sluice/steadysluice/Rule" ∧ Fld Z h a "com/example/steady_sluice/steadysluice/Rule" "count" "I" v0 ∧ Fld Z h a "com/example/steady_sluice/steadysluice/Rule" "period" "Ljava/time/Duration;" v1
def RsAt (Z : State) (h : Heap) (a : Addr) (v0 v1 v2 v3 v4 : Value) : Prop := Exa Z h a "com/example/steady_sluice/steadysluice/RuleSet" ∧ Fld Z h a "com/example/steady_sluice/steadysluice/RuleSet" "counts" "[I" v0 ∧ Fld Z h a "com/example/steady_sluice/steadysluice/RuleSet" "periodNanos" "[J" v1 ∧ Fld Z h a "com/example/steady_sluice/steadysluice/RuleSet" "largestCount" "I" v2 ∧ Fld Z h a "com/example/steady_sluice/steadysluice/RuleSet" "smallestCount" "I" v3 ∧ Fld Z h a "com/example/steady_sluice/steadysluice/RuleSet" "longestPeriodNanos" "J" v4
def ScAt (Z : State) (h : Heap) (a : Addr) (v0 v1 : Value) : Prop := Exa Z h a "com/example/steady_sluice/steadysluice/Scope" ∧ Fld Z h a "com/example/steady_sluice/steadysluice/Scope" "times" "[J" v0 ∧ Fld Z h a "com/example/steady_sluice/steadysluice/Scope" "head" "I" v1
def QO (P : Heap → Prop) (ws : List Addr) (h0 : Heap) (n0 : Nat) (v : Option Value) (h : Heap) (L : List Loc) : Prop := v = none ∧ Fr n0 L ∧ Keep h0 h ws ∧ P h
def QE (P : Addr → Heap → Prop) (ws : List Addr) (h0 : Heap) (n0 : Nat) (v : Option Value) (h : Heap) (L : List Loc) : Prop := ∃ b, v = some (.ref b) ∧ Fr n0 L ∧ Keep h0 h ws ∧ n0 ≤ b ∧ h0.size ≤ b ∧ P b h
def QI1 (P : Heap → Prop) (ws : List Addr) (h0 : Heap) (n0 : Nat) (v : Option Value) (h : Heap) (L : List Loc) : Prop := v = some (.int (1 : Int32)) ∧ Fr n0 L ∧ Keep h0 h ws ∧ P h
theorem own_fldJ {Z : State} {args : Array Value} {t : Term} {C n d : String} {a : Addr} {k : Int64} (ev : t.eval args Z none [] Z = some (.ref a)) (h : (Jvm.Cond.eq (Term.field t C n d) (Term.long k)).value args Z none Z [] = some true) : Fld Z Z.heap a C n d (.long k) := by
  obtain ⟨x, y, e1, e2, k1, k2⟩ := cmp_v (Or.inl h)
  have e2' : (Term.long k).eval args Z none [] Z = some (.long k) := rfl
  cases e2'.symm.trans e2
  obtain ⟨z, rfl⟩ := k2
  have e3 : z = k := gotT (eq_L e1 e2') h
  subst e3
  exact Fld.start ((fld_at ev).symm.trans e1)
theorem own_01 : (0 : Int32) + (1 : Int32) = (1 : Int32) := by decide
theorem own_dq : (1 : Int64) / (1000000000 : Int64) = (0 : Int64) := by decide
theorem own_dr : ((1 : Int64) - (1 : Int64) / (1000000000 : Int64) * (1000000000 : Int64)).toInt32 = (1 : Int32) := by decide
theorem own_10 : (1 : Int32) - (0 : Int32) = (1 : Int32) := by decide
theorem own_m0 : (0 : Int64) * (1000000000 : Int64) = (0 : Int64) := by decide
theorem own_i1 : (1 : Int32).toInt64 = (1 : Int64) := by decide
theorem own_a1 : (0 : Int64) + (1 : Int64) = (1 : Int64) := by decide
abbrev rr_1_0_0_12 : Room := { frames := 1, cells := 0, slots := 0, locals := 12 }
theorem d3_0 : decode jdk_22_method_1_code 0 = .ok (.aload_n 0, 1) := by decide +kernel
theorem d3_1 : decode jdk_22_method_1_code 1 = .ok (.invokespecial 1, 3) := by decide +kernel
theorem d3_4 : decode jdk_22_method_1_code 4 = .ok (.return_, 1) := by decide +kernel
theorem pn_java_util_AbstractCollection : plainName "java/util/AbstractCollection" = true := by first | (simp [plainName, overriddenIn]; done) | decide +kernel
theorem ef_3 (m : MethodId) (x0 : Addr) : entryFrame m #[(.ref x0)] 1 = mkF m 0 #[.val (.ref x0)] [] := by first | (simp [entryFrame, mkF, argsToLocals, Value.category]; done) | rfl
abbrev nm_3 : MethodName := ⟨"java/util/AbstractCollection", "<init>", "()V"⟩
set_option maxRecDepth 65536 in
set_option maxHeartbeats 40000000 in
theorem rm3 (l : Launch) (Z : State) (a0 : Array Value) (hw : ∀ d ∈ tables_1, d.before a0 Z = true) (ws : List Jvm.Cond) (a1 : Addr) (h0 : Heap) (n0 : Nat) (Z0 : n0 ≤ h0.size) :
    MetFree l nm_3 (head1 (Jvm.Cond.code nm_3 jdk_22_method_1_code 1 none :: ws) rr_1_0_0_12) (fun aa zU => aa = #[(.ref a1)] ∧ Z.Warmed39 zU.vm ∧ zU.heap = h0) (fun _ _ _ _ _ => True) (fun _ zU zo zU' => ∃ zv zL, zo = .returned zv ∧ QP none h0 n0 zv zU'.heap zL ∧ FrameEnd zU zo zU' zL rr_1_0_0_12.cells rr_1_0_0_12.slots) := by
  refine MetFree.of_bodySF (plainFor_of_name pn_java_util_AbstractCollection) hisR ?_
  intro p e s m args below meth c s₁ Bd hml0 hP hK
  obtain ⟨rfl, hZ, hh⟩ := hP
  have hx := Bd.exec
  have hby := Bd.bytes
  have hml : c.maxLocals = 1 := hml0
  have hown : s.vm.findClass "java/util/AbstractCollection" = some m.cls := findClass_of_methodNamed Bd.named
  have hnm := (name_of_methodNamed Bd.named Bd.method).1
  have X0 : Stand p l e rr_1_0_0_12 s m #[(.ref a1)] below meth c s₁ [] 0 0 := Stand.of_body Bd
  have e0 : s₁.heap = h0 := by rw [← hh, Bd.state]; rfl
  have N0 := Fr.nil n0
  have pre0 : ∀ t, Steps p.tables e below (s₁.setTop (mkF m 0 #[.val (.ref a1)] [])) t → Steps p.tables e below (s₁.setTop (entryFrame m #[(.ref a1)] 1)) t := fun t k => castTop (ef_3 m a1) k
  obtain ⟨T1, X1, e1, st1⟩ := initO X0 hx hZ hown (ow hw 19 rfl) (ow hw 20 rfl) (ow hw 21 rfl) e0 (g := (mkF m 1 #[.val (.ref a1)] [(.ref a1)])) rfl (by rw [hml]; rfl) rfl (hb hby d3_1) (by decide) (W := 0) (by show 2 * 0 + _ ≤ _; exact Nat.le_of_eq rfl) (by decide)
  obtain ⟨fsq, hr, hrun, hended, hW, hsame⟩ := X1.leave (v := none) (fun _ => rfl)
  refine ⟨_, _, pre0 _ ?_, hrun, hended, _, _, rfl, ?_, ⟨_, rfl⟩, hW, hsame.mono (by decide) (by decide)⟩
  · show Steps p.tables e below (s₁.setTop (mkF m 0 #[.val (.ref a1)] [])) _
    refine XS.aloadN X0.here hx rfl (hb hby d3_0) rfl rfl ?_
    refine st1 _ ?_
    show Steps p.tables e below (T1.setTop (mkF m 4 #[.val (.ref a1)] [])) _
    exact X1.returnOut hx Bd.returns (hb hby d3_4) hr
  · show QP none h0 n0 _ T1.heap _
    rw [e1]
    exact ⟨rfl, N0, rfl⟩
theorem d9_0 : decode jdk_30_method_1_code 0 = .ok (.aload_n 0, 1) := by decide +kernel
theorem d9_1 : decode jdk_30_method_1_code 1 = .ok (.invokespecial 1, 3) := by decide +kernel
theorem d9_4 : decode jdk_30_method_1_code 4 = .ok (.return_, 1) := by decide +kernel
theorem pn_java_lang_Record : plainName "java/lang/Record" = true := by first | (simp [plainName, overriddenIn]; done) | decide +kernel
theorem ef_9 (m : MethodId) (x0 : Addr) : entryFrame m #[(.ref x0)] 1 = mkF m 0 #[.val (.ref x0)] [] := by first | (simp [entryFrame, mkF, argsToLocals, Value.category]; done) | rfl
abbrev nm_9 : MethodName := ⟨"java/lang/Record", "<init>", "()V"⟩
set_option maxRecDepth 65536 in
set_option maxHeartbeats 40000000 in
theorem rm9 (l : Launch) (Z : State) (a0 : Array Value) (hw : ∀ d ∈ tables_1, d.before a0 Z = true) (ws : List Jvm.Cond) (a1 : Addr) (h0 : Heap) (n0 : Nat) (Z0 : n0 ≤ h0.size) :
    MetFree l nm_9 (head1 (Jvm.Cond.code nm_9 jdk_30_method_1_code 1 none :: ws) rr_1_0_0_12) (fun aa zU => aa = #[(.ref a1)] ∧ Z.Warmed39 zU.vm ∧ zU.heap = h0) (fun _ _ _ _ _ => True) (fun _ zU zo zU' => ∃ zv zL, zo = .returned zv ∧ QP none h0 n0 zv zU'.heap zL ∧ FrameEnd zU zo zU' zL rr_1_0_0_12.cells rr_1_0_0_12.slots) := by
  refine MetFree.of_bodySF (plainFor_of_name pn_java_lang_Record) hisR ?_
  intro p e s m args below meth c s₁ Bd hml0 hP hK
  obtain ⟨rfl, hZ, hh⟩ := hP
  have hx := Bd.exec
  have hby := Bd.bytes
  have hml : c.maxLocals = 1 := hml0
  have hown : s.vm.findClass "java/lang/Record" = some m.cls := findClass_of_methodNamed Bd.named
  have hnm := (name_of_methodNamed Bd.named Bd.method).1
  have X0 : Stand p l e rr_1_0_0_12 s m #[(.ref a1)] below meth c s₁ [] 0 0 := Stand.of_body Bd
  have e0 : s₁.heap = h0 := by rw [← hh, Bd.state]; rfl
  have N0 := Fr.nil n0
  have pre0 : ∀ t, Steps p.tables e below (s₁.setTop (mkF m 0 #[.val (.ref a1)] [])) t → Steps p.tables e below (s₁.setTop (entryFrame m #[(.ref a1)] 1)) t := fun t k => castTop (ef_9 m a1) k
  obtain ⟨T1, X1, e1, st1⟩ := initO X0 hx hZ hown (ow hw 57 rfl) (ow hw 20 rfl) (ow hw 21 rfl) e0 (g := (mkF m 1 #[.val (.ref a1)] [(.ref a1)])) rfl (by rw [hml]; rfl) rfl (hb hby d9_1) (by decide) (W := 0) (by show 2 * 0 + _ ≤ _; exact Nat.le_of_eq rfl) (by decide)
  obtain ⟨fsq, hr, hrun, hended, hW, hsame⟩ := X1.leave (v := none) (fun _ => rfl)
  refine ⟨_, _, pre0 _ ?_, hrun, hended, _, _, rfl, ?_, ⟨_, rfl⟩, hW, hsame.mono (by decide) (by decide)⟩
  · show Steps p.tables e below (s₁.setTop (mkF m 0 #[.val (.ref a1)] [])) _
    refine XS.aloadN X0.here hx rfl (hb hby d9_0) rfl rfl ?_
    refine st1 _ ?_
    show Steps p.tables e below (T1.setTop (mkF m 4 #[.val (.ref a1)] [])) _
    exact X1.returnOut hx Bd.returns (hb hby d9_4) hr
  · show QP none h0 n0 _ T1.heap _
    rw [e1]
    exact ⟨rfl, N0, rfl⟩
abbrev rr_2_0_0_24 : Room := { frames := 2, cells := 0, slots := 0, locals := 24 }
theorem d2_0 : decode jdk_39_method_1_code 0 = .ok (.aload_n 0, 1) := by decide +kernel
theorem pd_0 : parseMethodDescriptor "()V" = some ⟨[], none⟩ := by decide +kernel
theorem d2_1 : decode jdk_39_method_1_code 1 = .ok (.invokespecial 1, 3) := by decide +kernel
theorem d2_4 : decode jdk_39_method_1_code 4 = .ok (.aload_n 0, 1) := by decide +kernel
theorem d2_5 : decode jdk_39_method_1_code 5 = .ok (.iconst 0, 1) := by decide +kernel
theorem d2_6 : decode jdk_39_method_1_code 6 = .ok (.putfield 7, 3) := by decide +kernel
theorem d2_9 : decode jdk_39_method_1_code 9 = .ok (.return_, 1) := by decide +kernel
theorem pn_java_util_AbstractList : plainName "java/util/AbstractList" = true := by first | (simp [plainName, overriddenIn]; done) | decide +kernel
theorem ef_2 (m : MethodId) (x0 : Addr) : entryFrame m #[(.ref x0)] 1 = mkF m 0 #[.val (.ref x0)] [] := by first | (simp [entryFrame, mkF, argsToLocals, Value.category]; done) | rfl
abbrev nm_2 : MethodName := ⟨"java/util/AbstractList", "<init>", "()V"⟩
set_option maxRecDepth 65536 in
set_option maxHeartbeats 40000000 in
theorem rm2 (l : Launch) (Z : State) (a0 : Array Value) (hw : ∀ d ∈ tables_1, d.before a0 Z = true) (ws : List Jvm.Cond) (a1 : Addr) (h0 : Heap) (n0 : Nat) (Z0 : n0 ≤ h0.size) (g0_a1 : n0 ≤ a1) (PA : AlAt Z h0 a1 (.int (0 : Int32)) .null (.int (0 : Int32))) :
    MetFree l nm_2 (head1 (Jvm.Cond.code nm_2 jdk_39_method_1_code 1 none :: ws) rr_2_0_0_24) (fun aa zU => aa = #[(.ref a1)] ∧ Z.Warmed39 zU.vm ∧ zU.heap = h0) (fun _ _ _ _ _ => True) (fun _ zU zo zU' => ∃ zv zL, zo = .returned zv ∧ QO (fun h => AlAt Z h a1 (.int (0 : Int32)) .null (.int (0 : Int32))) [a1] h0 n0 zv zU'.heap zL ∧ FrameEnd zU zo zU' zL rr_2_0_0_24.cells rr_2_0_0_24.slots) := by
  refine MetFree.of_bodySF (plainFor_of_name pn_java_util_AbstractList) hisR ?_
  intro p e s m args below meth c s₁ Bd hml0 hP hK
  obtain ⟨rfl, hZ, hh⟩ := hP
  have hx := Bd.exec
  have hby := Bd.bytes
  have hml : c.maxLocals = 1 := hml0
  have hown : s.vm.findClass "java/util/AbstractList" = some m.cls := findClass_of_methodNamed Bd.named
  have hnm := (name_of_methodNamed Bd.named Bd.method).1
  have X0 : Stand p l e rr_2_0_0_24 s m #[(.ref a1)] below meth c s₁ [] 0 0 := Stand.of_body Bd
  have e0 : s₁.heap = h0 := by rw [← hh, Bd.state]; rfl
  have N0 := Fr.nil n0
  have pre0 : ∀ t, Steps p.tables e below (s₁.setTop (mkF m 0 #[.val (.ref a1)] [])) t → Steps p.tables e below (s₁.setTop (entryFrame m #[(.ref a1)] 1)) t := fun t k => castTop (ef_2 m a1) k
  obtain ⟨Eob1, F0ob1, F1ob1, F2ob1⟩ := id PA
  obtain ⟨_, _, ⟨T2, L2, k2, n2⟩, -, X2, ⟨Lc2, hQ2, l2, y2, z2⟩, st2⟩ := X0.specialBack hx (y := nm_3) rfl hown (mvT hZ (ow hw 13 rfl)) (mvT hZ (ow hw 14 rfl)) (mvT hZ (ow hw 18 rfl)) (by decide) (backOf (W := 0) (rm3 l Z a0 hw [] a1 h0 n0 Z0) hZ (ow hw 18 rfl) (ow hw 17 rfl) (by decide) (by decide)) (g := (mkF m 1 #[.val (.ref a1)] [(.ref a1)])) rfl (by rw [hml]; rfl) (Steps.refl _) (a := a1) (argsL := []) (rest := []) (lenOf pd_0 rfl) rfl (by show 2 * 0 + _ ≤ _; exact Nat.le_of_eq rfl) (hb hby d2_1) (fun _ _ => ⟨rfl, e0, (by decide : 0 + 0 ≤ _), (by decide : 0 + 0 ≤ _)⟩)
  dsimp only [Pt.U, Pt.locs, Pt.cells, Pt.slots] at X2 l2 y2 z2 st2 hQ2
  subst l2 y2 z2
  obtain ⟨rfl, N2q, e2⟩ := hQ2
  have N2 := Fr.app N0 N2q
  obtain ⟨T3, h3, X3, e3, W3, st3⟩ := putF X2 hx hZ hown (host := "") (Or.inl (ow hw 22 rfl)) Via.refl e2 F0ob1 Eob1 (Or.inl (ow hw 23 rfl)) (ow hw 2 rfl) (ty := .int) (by decide) rfl rfl (g := (mkF m 6 #[.val (.ref a1)] [(.int (0 : Int32)), (.ref a1)])) rfl rfl (hb hby d2_6)
  have Fw3 := F0ob1.same W3
  have N3 := Fr.snoc X3 N2 g0_a1
  have kp4 : Keep h0 h3 [a1] := ((Keep.refl h0 [a1]).wr W3 (Or.inl (List.mem_of_getElem? (i := 0) rfl)))
  have c5 := Eob1.wr W3
  have c6 := F1ob1.other W3 (Or.inr (slot_ne (Or.inl (ow hw 26 rfl)) (Or.inl (ow hw 23 rfl)) (by decide) (t := (.array (.object "java/lang/Object"))) (t' := .int) (by decide) (by decide)))
  have c7 := F2ob1.other W3 (Or.inr (slot_ne (Or.inl (ow hw 94 rfl)) (Or.inl (ow hw 23 rfl)) (by decide) (t := .int) (t' := .int) (by decide) (by decide)))
  obtain ⟨fsq, hr, hrun, hended, hW, hsame⟩ := X3.leave (v := none) (fun _ => rfl)
  refine ⟨_, _, pre0 _ ?_, hrun, hended, _, _, rfl, ?_, ⟨_, rfl⟩, hW, hsame.mono (by decide) (by decide)⟩
  · show Steps p.tables e below (s₁.setTop (mkF m 0 #[.val (.ref a1)] [])) _
    refine XS.aloadN X0.here hx rfl (hb hby d2_0) rfl rfl ?_
    refine st2.trans ?_
    refine XS.aloadN X2.here hx rfl (hb hby d2_4) rfl rfl ?_
    show Steps p.tables e below (T2.setTop (mkF m 5 #[.val (.ref a1)] [(.ref a1)])) _
    refine XS.iconst X2.here hx rfl (hb hby d2_5) ?_
    refine st3 _ ?_
    show Steps p.tables e below (T3.setTop (mkF m 9 #[.val (.ref a1)] [])) _
    exact X3.returnOut hx Bd.returns (hb hby d2_9) hr
  · show QO (fun h => AlAt Z h a1 (.int (0 : Int32)) .null (.int (0 : Int32))) [a1] h0 n0 _ T3.heap _
    rw [e3]
    exact ⟨rfl, N3, kp4, ⟨c5, Fw3, c6, c7⟩⟩
abbrev rr_3_0_0_36 : Room := { frames := 3, cells := 0, slots := 0, locals := 36 }
theorem own_sta {Z : State} {h h' : Heap} {C n d : String} {v : Value} {ws : List Addr} {K : String} {a : Addr} (S : Sta Z h C n d v) (Kp : Keep h h' [a]) (E : Exa Z h a K) : Sta Z h' C n d v := by
  obtain ⟨cf, i, k, f, st, cell, h1, h2, h3, h4, h5, h6, h7⟩ := S
  obtain ⟨ce, ke, e1, -, -, e4, -⟩ := E
  have ne : st ≠ a := fun q => by subst q; cases h5.symm.trans e1; rw [h6] at e4; cases e4
  exact ⟨cf, i, k, f, st, cell, h1, h2, h3, h4, Kp.2.1 _ _ h5 (ninS ne nin0), h6, h7⟩
theorem d1_0 : decode jdk_38_method_2_code 0 = .ok (.aload_n 0, 1) := by decide +kernel
theorem d1_1 : decode jdk_38_method_2_code 1 = .ok (.invokespecial 1, 3) := by decide +kernel
theorem d1_4 : decode jdk_38_method_2_code 4 = .ok (.aload_n 0, 1) := by decide +kernel
theorem d1_5 : decode jdk_38_method_2_code 5 = .ok (.getstatic 39, 3) := by decide +kernel
theorem d1_8 : decode jdk_38_method_2_code 8 = .ok (.putfield 9, 3) := by decide +kernel
theorem d1_11 : decode jdk_38_method_2_code 11 = .ok (.return_, 1) := by decide +kernel
theorem pn_java_util_ArrayList : plainName "java/util/ArrayList" = true := by first | (simp [plainName, overriddenIn]; done) | decide +kernel
theorem ef_1 (m : MethodId) (x0 : Addr) : entryFrame m #[(.ref x0)] 1 = mkF m 0 #[.val (.ref x0)] [] := by first | (simp [entryFrame, mkF, argsToLocals, Value.category]; done) | rfl
abbrev nm_1 : MethodName := ⟨"java/util/ArrayList", "<init>", "()V"⟩
set_option maxRecDepth 65536 in
set_option maxHeartbeats 40000000 in
theorem rm1 (l : Launch) (Z : State) (a0 : Array Value) (hw : ∀ d ∈ tables_1, d.before a0 Z = true) (ws : List Jvm.Cond) (a1 : Addr) (de : Addr) (h0 : Heap) (n0 : Nat) (Z0 : n0 ≤ h0.size) (g0_a1 : n0 ≤ a1) (PA : AlAt Z h0 a1 (.int (0 : Int32)) .null (.int (0 : Int32))) (SD : Sta Z h0 "java/util/ArrayList" "DEFAULTCAPACITY_EMPTY_ELEMENTDATA" "[Ljava/lang/Object;" (.ref de)) :
    MetFree l nm_1 (head1 (Jvm.Cond.code nm_1 jdk_38_method_2_code 1 none :: ws) rr_3_0_0_36) (fun aa zU => aa = #[(.ref a1)] ∧ Z.Warmed39 zU.vm ∧ zU.heap = h0) (fun _ _ _ _ _ => True) (fun _ zU zo zU' => ∃ zv zL, zo = .returned zv ∧ QO (fun h => AlAt Z h a1 (.int (0 : Int32)) (.ref de) (.int (0 : Int32))) [a1] h0 n0 zv zU'.heap zL ∧ FrameEnd zU zo zU' zL rr_3_0_0_36.cells rr_3_0_0_36.slots) := by
  refine MetFree.of_bodySF (plainFor_of_name pn_java_util_ArrayList) hisR ?_
  intro p e s m args below meth c s₁ Bd hml0 hP hK
  obtain ⟨rfl, hZ, hh⟩ := hP
  have hx := Bd.exec
  have hby := Bd.bytes
  have hml : c.maxLocals = 1 := hml0
  have hown : s.vm.findClass "java/util/ArrayList" = some m.cls := findClass_of_methodNamed Bd.named
  have hnm := (name_of_methodNamed Bd.named Bd.method).1
  have X0 : Stand p l e rr_3_0_0_36 s m #[(.ref a1)] below meth c s₁ [] 0 0 := Stand.of_body Bd
  have e0 : s₁.heap = h0 := by rw [← hh, Bd.state]; rfl
  have N0 := Fr.nil n0
  have pre0 : ∀ t, Steps p.tables e below (s₁.setTop (mkF m 0 #[.val (.ref a1)] [])) t → Steps p.tables e below (s₁.setTop (entryFrame m #[(.ref a1)] 1)) t := fun t k => castTop (ef_1 m a1) k
  obtain ⟨Eob1, F0ob1, F1ob1, F2ob1⟩ := id PA
  obtain ⟨_, _, ⟨T2, L2, k2, n2⟩, -, X2, ⟨Lc2, hQ2, l2, y2, z2⟩, st2⟩ := X0.specialBack hx (y := nm_2) rfl hown (mvT hZ (ow hw 7 rfl)) (mvT hZ (ow hw 8 rfl)) (mvT hZ (ow hw 12 rfl)) (by decide) (backOf (W := 0) (rm2 l Z a0 hw [] a1 h0 n0 Z0 g0_a1 PA) hZ (ow hw 12 rfl) (ow hw 11 rfl) (by decide) (by decide)) (g := (mkF m 1 #[.val (.ref a1)] [(.ref a1)])) rfl (by rw [hml]; rfl) (Steps.refl _) (a := a1) (argsL := []) (rest := []) (lenOf pd_0 rfl) rfl (by show 2 * 0 + _ ≤ _; exact Nat.le_of_eq rfl) (hb hby d1_1) (fun _ _ => ⟨rfl, e0, (by decide : 0 + 0 ≤ _), (by decide : 0 + 0 ≤ _)⟩)
  dsimp only [Pt.U, Pt.locs, Pt.cells, Pt.slots] at X2 l2 y2 z2 st2 hQ2
  subst l2 y2 z2
  obtain ⟨rfl, N2q, K2, P02⟩ := hQ2
  have N2 := Fr.app N0 N2q
  have SD2 := own_sta (ws := []) SD K2 Eob1
  obtain ⟨Eob3, F0ob3, F1ob3, F2ob3⟩ := id P02
  obtain ⟨T4, X4, e4, st4⟩ := getS2 X2 hx hZ hown (host := "") (Or.inl (ow hw 24 rfl)) Via.refl rfl SD2 (g := (mkF m 5 #[.val (.ref a1)] [(.ref a1)])) rfl (hb hby d1_5)
  obtain ⟨T5, h5, X5, e5, W5, st5⟩ := putF X4 hx hZ hown (host := "") (Or.inl (ow hw 25 rfl)) Via.refl e4 F1ob3 Eob3 (Or.inl (ow hw 26 rfl)) (ow hw 2 rfl) (ty := (.array (.object "java/lang/Object"))) (by decide) rfl rfl (g := (mkF m 8 #[.val (.ref a1)] [(.ref de), (.ref a1)])) rfl rfl (hb hby d1_8)
  have Fw5 := F1ob3.same W5
  have N5 := Fr.snoc X5 N2 g0_a1
  have kp6 : Keep h0 h5 [a1] := (((Keep.refl h0 [a1]).trans K2 (allS (Or.inl (List.mem_of_getElem? (i := 0) rfl)) all0)).wr W5 (Or.inl (List.mem_of_getElem? (i := 0) rfl)))
  have c7 := Eob3.wr W5
  have c8 := F0ob3.other W5 (Or.inr (slot_ne (Or.inl (ow hw 23 rfl)) (Or.inl (ow hw 26 rfl)) (by decide) (t := .int) (t' := (.array (.object "java/lang/Object"))) (by decide) (by decide)))
  have c9 := F2ob3.other W5 (Or.inr (slot_ne (Or.inl (ow hw 94 rfl)) (Or.inl (ow hw 26 rfl)) (by decide) (t := .int) (t' := (.array (.object "java/lang/Object"))) (by decide) (by decide)))
  obtain ⟨fsq, hr, hrun, hended, hW, hsame⟩ := X5.leave (v := none) (fun _ => rfl)
  refine ⟨_, _, pre0 _ ?_, hrun, hended, _, _, rfl, ?_, ⟨_, rfl⟩, hW, hsame.mono (by decide) (by decide)⟩
  · show Steps p.tables e below (s₁.setTop (mkF m 0 #[.val (.ref a1)] [])) _
    refine XS.aloadN X0.here hx rfl (hb hby d1_0) rfl rfl ?_
    refine st2.trans ?_
    refine XS.aloadN X2.here hx rfl (hb hby d1_4) rfl rfl ?_
    show Steps p.tables e below (T2.setTop (mkF m 5 #[.val (.ref a1)] [(.ref a1)])) _
    refine st4 _ ?_
    refine st5 _ ?_
    show Steps p.tables e below (T5.setTop (mkF m 11 #[.val (.ref a1)] [])) _
    exact X5.returnOut hx Bd.returns (hb hby d1_11) hr
  · show QO (fun h => AlAt Z h a1 (.int (0 : Int32)) (.ref de) (.int (0 : Int32))) [a1] h0 n0 _ T5.heap _
    rw [e5]
    exact ⟨rfl, N5, kp6, ⟨c7, c8, Fw5, c9⟩⟩
theorem d7_0 : decode jdk_2316_method_17_code 0 = .ok (.aload_n 0, 1) := by decide +kernel
theorem d7_1 : decode jdk_2316_method_17_code 1 = .ok (.invokespecial 218, 3) := by decide +kernel
theorem d7_4 : decode jdk_2316_method_17_code 4 = .ok (.aload_n 0, 1) := by decide +kernel
theorem d7_5 : decode jdk_2316_method_17_code 5 = .ok (.lload_n 1, 1) := by decide +kernel
theorem d7_6 : decode jdk_2316_method_17_code 6 = .ok (.putfield 221, 3) := by decide +kernel
theorem d7_9 : decode jdk_2316_method_17_code 9 = .ok (.aload_n 0, 1) := by decide +kernel
theorem d7_10 : decode jdk_2316_method_17_code 10 = .ok (.iload_n 3, 1) := by decide +kernel
theorem d7_11 : decode jdk_2316_method_17_code 11 = .ok (.putfield 224, 3) := by decide +kernel
theorem d7_14 : decode jdk_2316_method_17_code 14 = .ok (.return_, 1) := by decide +kernel
theorem pn_java_time_Duration : plainName "java/time/Duration" = true := by first | (simp [plainName, overriddenIn]; done) | decide +kernel
theorem ef_7 (m : MethodId) (x0 : Addr) (x1 : Int64) (x2 : Int32) : entryFrame m #[(.ref x0), (.long x1), (.int x2)] 4 = mkF m 0 #[.val (.ref x0), .val (.long x1), .second, .val (.int x2)] [] := by first | (simp [entryFrame, mkF, argsToLocals, Value.category]; done) | rfl
abbrev nm_7 : MethodName := ⟨"java/time/Duration", "<init>", "(JI)V"⟩
set_option maxRecDepth 65536 in
set_option maxHeartbeats 40000000 in
theorem rm7 (l : Launch) (Z : State) (a0 : Array Value) (hw : ∀ d ∈ tables_1, d.before a0 Z = true) (ws : List Jvm.Cond) (a1 : Addr) (q2 : Int64) (p3 : Int32) (h0 : Heap) (n0 : Nat) (Z0 : n0 ≤ h0.size) (g0_a1 : n0 ≤ a1) (PA : DuAt Z h0 a1 (.long (0 : Int64)) (.int (0 : Int32))) :
    MetFree l nm_7 (head1 (Jvm.Cond.code nm_7 jdk_2316_method_17_code 4 none :: ws) rr_1_0_0_12) (fun aa zU => aa = #[(.ref a1), (.long q2), (.int p3)] ∧ Z.Warmed39 zU.vm ∧ zU.heap = h0) (fun _ _ _ _ _ => True) (fun _ zU zo zU' => ∃ zv zL, zo = .returned zv ∧ QO (fun h => DuAt Z h a1 (.long q2) (.int p3)) [a1] h0 n0 zv zU'.heap zL ∧ FrameEnd zU zo zU' zL rr_1_0_0_12.cells rr_1_0_0_12.slots) := by
  refine MetFree.of_bodySF (plainFor_of_name pn_java_time_Duration) hisR ?_
  intro p e s m args below meth c s₁ Bd hml0 hP hK
  obtain ⟨rfl, hZ, hh⟩ := hP
  have hx := Bd.exec
  have hby := Bd.bytes
  have hml : c.maxLocals = 4 := hml0
  have hown : s.vm.findClass "java/time/Duration" = some m.cls := findClass_of_methodNamed Bd.named
  have hnm := (name_of_methodNamed Bd.named Bd.method).1
  have X0 : Stand p l e rr_1_0_0_12 s m #[(.ref a1), (.long q2), (.int p3)] below meth c s₁ [] 0 0 := Stand.of_body Bd
  have e0 : s₁.heap = h0 := by rw [← hh, Bd.state]; rfl
  have N0 := Fr.nil n0
  have pre0 : ∀ t, Steps p.tables e below (s₁.setTop (mkF m 0 #[.val (.ref a1), .val (.long q2), .second, .val (.int p3)] [])) t → Steps p.tables e below (s₁.setTop (entryFrame m #[(.ref a1), (.long q2), (.int p3)] 4)) t := fun t k => castTop (ef_7 m a1 q2 p3) k
  obtain ⟨Eob1, F0ob1, F1ob1⟩ := id PA
  obtain ⟨T2, X2, e2, st2⟩ := initO X0 hx hZ hown (ow hw 44 rfl) (ow hw 20 rfl) (ow hw 21 rfl) e0 (g := (mkF m 1 #[.val (.ref a1), .val (.long q2), .second, .val (.int p3)] [(.ref a1)])) rfl (by rw [hml]; rfl) rfl (hb hby d7_1) (by decide) (W := 0) (by show 2 * 0 + _ ≤ _; exact Nat.le_of_eq rfl) (by decide)
  obtain ⟨T3, h3, X3, e3, W3, st3⟩ := putF X2 hx hZ hown (host := "") (Or.inl (ow hw 45 rfl)) Via.refl e2 F0ob1 Eob1 (Or.inr ⟨(ow hw 46 rfl), rfl, hnm⟩) (ow hw 39 rfl) (ty := .long) (by decide) rfl rfl (g := (mkF m 6 #[.val (.ref a1), .val (.long q2), .second, .val (.int p3)] [(.long q2), (.ref a1)])) rfl rfl (hb hby d7_6)
  have Fw3 := F0ob1.same W3
  have N3 := Fr.snoc X3 N0 g0_a1
  have c5 := F1ob1.other W3 (Or.inr (slot_ne (Or.inr (ow hw 48 rfl)) (Or.inr (ow hw 46 rfl)) (by decide) (t := .int) (t' := .long) (by decide) (by decide)))
  have c6 := Eob1.wr W3
  obtain ⟨T4, h4, X4, e4, W4, st4⟩ := putF X3 hx hZ hown (host := "") (Or.inl (ow hw 47 rfl)) Via.refl e3 c5 c6 (Or.inr ⟨(ow hw 48 rfl), rfl, hnm⟩) (ow hw 39 rfl) (ty := .int) (by decide) rfl rfl (g := (mkF m 11 #[.val (.ref a1), .val (.long q2), .second, .val (.int p3)] [(.int p3), (.ref a1)])) rfl rfl (hb hby d7_11)
  have Fw4 := c5.same W4
  have N4 := Fr.snoc X4 N3 g0_a1
  have kp7 : Keep h0 h4 [a1] := (((Keep.refl h0 [a1]).wr W3 (Or.inl (List.mem_of_getElem? (i := 0) rfl))).wr W4 (Or.inl (List.mem_of_getElem? (i := 0) rfl)))
  have c8 := c6.wr W4
  have c9 := Fw3.other W4 (Or.inr (slot_ne (Or.inr (ow hw 46 rfl)) (Or.inr (ow hw 48 rfl)) (by decide) (t := .long) (t' := .int) (by decide) (by decide)))
  obtain ⟨fsq, hr, hrun, hended, hW, hsame⟩ := X4.leave (v := none) (fun _ => rfl)
  refine ⟨_, _, pre0 _ ?_, hrun, hended, _, _, rfl, ?_, ⟨_, rfl⟩, hW, hsame.mono (by decide) (by decide)⟩
  · show Steps p.tables e below (s₁.setTop (mkF m 0 #[.val (.ref a1), .val (.long q2), .second, .val (.int p3)] [])) _
    refine XS.aloadN X0.here hx rfl (hb hby d7_0) rfl rfl ?_
    refine st2 _ ?_
    refine XS.aloadN X2.here hx rfl (hb hby d7_4) rfl rfl ?_
    show Steps p.tables e below (T2.setTop (mkF m 5 #[.val (.ref a1), .val (.long q2), .second, .val (.int p3)] [(.ref a1)])) _
    refine XS.lloadN X2.here hx rfl (hb hby d7_5) rfl ?_
    refine st3 _ ?_
    refine XS.aloadN X3.here hx rfl (hb hby d7_9) rfl rfl ?_
    show Steps p.tables e below (T3.setTop (mkF m 10 #[.val (.ref a1), .val (.long q2), .second, .val (.int p3)] [(.ref a1)])) _
    refine XS.iloadN X3.here hx rfl (hb hby d7_10) rfl ?_
    refine st4 _ ?_
    show Steps p.tables e below (T4.setTop (mkF m 14 #[.val (.ref a1), .val (.long q2), .second, .val (.int p3)] [])) _
    exact X4.returnOut hx Bd.returns (hb hby d7_14) hr
  · show QO (fun h => DuAt Z h a1 (.long q2) (.int p3)) [a1] h0 n0 _ T4.heap _
    rw [e4]
    exact ⟨rfl, N4, kp7, ⟨c8, c9, Fw4⟩⟩
abbrev rr_2_1_2_28 : Room := { frames := 2, cells := 1, slots := 2, locals := 28 }
theorem d6_0 : decode jdk_2316_method_16_code 0 = .ok (.lload_n 0, 1) := by decide +kernel
theorem d6_1 : decode jdk_2316_method_16_code 1 = .ok (.iload_n 2, 1) := by decide +kernel
theorem d6_2 : decode jdk_2316_method_16_code 2 = .ok (.i2l, 1) := by decide +kernel
theorem d6_3 : decode jdk_2316_method_16_code 3 = .ok (.lor, 1) := by decide +kernel
theorem d6_4 : decode jdk_2316_method_16_code 4 = .ok (.lconst 0, 1) := by decide +kernel
theorem d6_5 : decode jdk_2316_method_16_code 5 = .ok (.lcmp, 1) := by decide +kernel
theorem d6_6 : decode jdk_2316_method_16_code 6 = .ok (.ifCond .ne 7, 3) := by decide +kernel
theorem d6_13 : decode jdk_2316_method_16_code 13 = .ok (.new 11, 3) := by decide +kernel
theorem d6_16 : decode jdk_2316_method_16_code 16 = .ok (.dup, 1) := by decide +kernel
theorem d6_17 : decode jdk_2316_method_16_code 17 = .ok (.lload_n 0, 1) := by decide +kernel
theorem d6_18 : decode jdk_2316_method_16_code 18 = .ok (.iload_n 2, 1) := by decide +kernel
theorem pd_3 : parseMethodDescriptor "(JI)V" = some ⟨[.long, .int], none⟩ := by decide +kernel
theorem d6_19 : decode jdk_2316_method_16_code 19 = .ok (.invokespecial 215, 3) := by decide +kernel
theorem d6_22 : decode jdk_2316_method_16_code 22 = .ok (.areturn, 1) := by decide +kernel
theorem ef_6 (m : MethodId) (x0 : Int64) (x1 : Int32) : entryFrame m #[(.long x0), (.int x1)] 3 = mkF m 0 #[.val (.long x0), .second, .val (.int x1)] [] := by first | (simp [entryFrame, mkF, argsToLocals, Value.category]; done) | rfl
abbrev nm_6 : MethodName := ⟨"java/time/Duration", "create", "(JI)Ljava/time/Duration;"⟩
set_option maxRecDepth 65536 in
set_option maxHeartbeats 40000000 in
theorem rm6 (l : Launch) (Z : State) (a0 : Array Value) (hw : ∀ d ∈ tables_1, d.before a0 Z = true) (ws : List Jvm.Cond)  (h0 : Heap) (n0 : Nat) (Z0 : n0 ≤ h0.size) :
    MetFree l nm_6 (head1 (Jvm.Cond.code nm_6 jdk_2316_method_16_code 3 (some (.object "java/time/Duration")) :: ws) rr_2_1_2_28) (fun aa zU => aa = #[(.long (0 : Int64)), (.int (1 : Int32))] ∧ Z.Warmed39 zU.vm ∧ zU.heap = h0) (fun _ _ _ _ _ => True) (fun _ zU zo zU' => ∃ zv zL, zo = .returned zv ∧ QE (fun b h => DuAt Z h b (.long (0 : Int64)) (.int (1 : Int32))) [] h0 n0 zv zU'.heap zL ∧ FrameEnd zU zo zU' zL rr_2_1_2_28.cells rr_2_1_2_28.slots) := by
  refine MetFree.of_bodySF (plainFor_of_name pn_java_time_Duration) hisR ?_
  intro p e s m args below meth c s₁ Bd hml0 hP hK
  obtain ⟨rfl, hZ, hh⟩ := hP
  have hx := Bd.exec
  have hby := Bd.bytes
  have hml : c.maxLocals = 3 := hml0
  have hown : s.vm.findClass "java/time/Duration" = some m.cls := findClass_of_methodNamed Bd.named
  have hnm := (name_of_methodNamed Bd.named Bd.method).1
  have X0 : Stand p l e rr_2_1_2_28 s m #[(.long (0 : Int64)), (.int (1 : Int32))] below meth c s₁ [] 0 0 := Stand.of_body Bd
  have e0 : s₁.heap = h0 := by rw [← hh, Bd.state]; rfl
  have N0 := Fr.nil n0
  have pre0 : ∀ t, Steps p.tables e below (s₁.setTop (mkF m 0 #[.val (.long (0 : Int64)), .second, .val (.int (1 : Int32))] [])) t → Steps p.tables e below (s₁.setTop (entryFrame m #[(.long (0 : Int64)), (.int (1 : Int32))] 3)) t := fun t k => castTop (ef_6 m (0 : Int64) (1 : Int32)) k
  obtain ⟨T1, h1, X1, e1, E1, A1, D1, -, st1⟩ := newO X0 hx hZ hown (ow hw 38 rfl) (ow hw 39 rfl) (ow hw 32 rfl) e0 (g := (mkF m 13 #[.val (.long (0 : Int64)), .second, .val (.int (1 : Int32))] [])) rfl (hb hby d6_13) (by decide) (by decide)
  obtain ⟨b1, g_b1⟩ : ∃ z, z = h0.size := ⟨_, rfl⟩
  rw [← g_b1] at A1 D1 st1
  have g0_b1 : n0 ≤ b1 := Nat.le_trans Z0 (Nat.le_of_eq g_b1.symm)
  have sz_b1 : h0.size ≤ b1 := Nat.le_trans (Nat.le_refl _) (Nat.le_of_eq g_b1.symm)
  have F_seconds_b1 : Fld Z h1 b1 "java/time/Duration" "seconds" "J" (.long (0 : Int64)) := D1 (Or.inr (ow hw 46 rfl)) (ty := .long) (by decide)
  have F_nanos_b1 : Fld Z h1 b1 "java/time/Duration" "nanos" "I" (.int (0 : Int32)) := D1 (Or.inr (ow hw 48 rfl)) (ty := .int) (by decide)
  obtain ⟨_, _, ⟨T2, L2, k2, n2⟩, -, X2, ⟨Lc2, hQ2, l2, y2, z2⟩, st2⟩ := X1.specialBack hx (y := nm_7) rfl hown (mvT hZ (ow hw 40 rfl)) (mvT hZ (ow hw 41 rfl)) (mvT hZ (ow hw 43 rfl)) (by decide) (backOf (W := 1) (rm7 l Z a0 hw [] b1 (0 : Int64) (1 : Int32) h1 n0 (Nat.le_trans Z0 E1.1) g0_b1 ⟨A1, F_seconds_b1, F_nanos_b1⟩) hZ (ow hw 43 rfl) (ow hw 32 rfl) (by decide) (by decide)) (g := (mkF m 19 #[.val (.long (0 : Int64)), .second, .val (.int (1 : Int32))] [(.int (1 : Int32)), (.long (0 : Int64)), (.ref b1), (.ref b1)])) rfl (by rw [hml]; rfl) (Steps.refl _) (a := b1) (argsL := [(.long (0 : Int64)), (.int (1 : Int32))]) (rest := [(.ref b1)]) (lenOf pd_3 rfl) rfl (by show 2 * 0 + _ ≤ _; exact Nat.le_of_eq rfl) (hb hby d6_19) (fun _ _ => ⟨rfl, e1, (by decide : 1 + 0 ≤ _), (by decide : 2 + 0 ≤ _)⟩)
  dsimp only [Pt.U, Pt.locs, Pt.cells, Pt.slots] at X2 l2 y2 z2 st2 hQ2
  subst l2 y2 z2
  obtain ⟨rfl, N2q, K2, P02⟩ := hQ2
  have N2 := Fr.app N0 N2q
  obtain ⟨Eob3, F0ob3, F1ob3⟩ := id P02
  have kp4 : Keep h0 T2.heap [] := (((Keep.refl h0 []).ext E1).trans K2 (allS (Or.inr sz_b1) all0))
  obtain ⟨fsq, hr, hrun, hended, hW, hsame⟩ := X2.leave (v := some (.ref b1)) (fun h => by rw [Bd.returns] at h; cases h)
  refine ⟨_, _, pre0 _ ?_, hrun, hended, _, _, rfl, ?_, ⟨_, rfl⟩, hW, hsame.mono (by decide) (by decide)⟩
  · show Steps p.tables e below (s₁.setTop (mkF m 0 #[.val (.long (0 : Int64)), .second, .val (.int (1 : Int32))] [])) _
    refine XS.lloadN X0.here hx rfl (hb hby d6_0) rfl ?_
    refine XS.iloadN X0.here hx rfl (hb hby d6_1) rfl ?_
    refine XS.i2l X0.here hx rfl (hb hby d6_2) rfl ?_
    show Steps p.tables e below (s₁.setTop (mkF m 3 #[.val (.long (0 : Int64)), .second, .val (.int (1 : Int32))] [(.long ((1 : Int32).toInt64)), (.long (0 : Int64))])) _
    refine XS.lor X0.here hx rfl (hb hby d6_3) rfl ?_
    refine XS.lconst X0.here hx rfl (hb hby d6_4) ?_
    refine XS.lcmp X0.here hx rfl (hb hby d6_5) rfl ?_
    show Steps p.tables e below (s₁.setTop (mkF m 6 #[.val (.long (0 : Int64)), .second, .val (.int (1 : Int32))] [(.int (lcmpW ((0 : Int64) ||| ((1 : Int32).toInt64)) (0 : Int64)))])) _
    refine XS.ifYes X0.here hx rfl (pc0 := 6) (pc' := 13) rfl (hb hby d6_6) rfl ((if0 _ _).trans (feq (fun z => ((by decide) : ¬ (((0 : Int64) ||| ((1 : Int32).toInt64)) = (0 : Int64))) ((lw_eq _ _).mp z))).2) (by decide) (by decide) ?_
    refine st1 _ ?_
    refine XS.dup X1.here hx rfl (hb hby d6_16) rfl rfl ?_
    show Steps p.tables e below (T1.setTop (mkF m 17 #[.val (.long (0 : Int64)), .second, .val (.int (1 : Int32))] [(.ref b1), (.ref b1)])) _
    refine XS.lloadN X1.here hx rfl (hb hby d6_17) rfl ?_
    refine XS.iloadN X1.here hx rfl (hb hby d6_18) rfl ?_
    refine st2.trans ?_
    show Steps p.tables e below (T2.setTop (mkF m 22 #[.val (.long (0 : Int64)), .second, .val (.int (1 : Int32))] [(.ref b1)])) _
    exact retOut X2 hx Bd.returns rfl (Or.inr (Or.inr (Or.inr (Or.inr ⟨rfl, rfl, rfl⟩)))) (hb hby d6_22) hr
  · show QE (fun b h => DuAt Z h b (.long (0 : Int64)) (.int (1 : Int32))) [] h0 n0 _ T2.heap _
    exact ⟨_, rfl, N2, kp4, g0_b1, sz_b1, ⟨Eob3, F0ob3, F1ob3⟩⟩
abbrev rr_3_1_2_42 : Room := { frames := 3, cells := 1, slots := 2, locals := 42 }
theorem d5_0 : decode jdk_2316_method_7_code 0 = .ok (.lload_n 0, 1) := by decide +kernel
theorem d5_1 : decode jdk_2316_method_7_code 1 = .ok (.ldc2_w 16, 3) := by decide +kernel
theorem d5_4 : decode jdk_2316_method_7_code 4 = .ok (.ldiv, 1) := by decide +kernel
theorem d5_5 : decode jdk_2316_method_7_code 5 = .ok (.lstore_n 2, 1) := by decide +kernel
theorem d5_6 : decode jdk_2316_method_7_code 6 = .ok (.lload_n 0, 1) := by decide +kernel
theorem d5_7 : decode jdk_2316_method_7_code 7 = .ok (.ldc2_w 16, 3) := by decide +kernel
theorem d5_10 : decode jdk_2316_method_7_code 10 = .ok (.lrem, 1) := by decide +kernel
theorem d5_11 : decode jdk_2316_method_7_code 11 = .ok (.l2i, 1) := by decide +kernel
theorem d5_12 : decode jdk_2316_method_7_code 12 = .ok (.istore 4, 2) := by decide +kernel
theorem d5_14 : decode jdk_2316_method_7_code 14 = .ok (.iload 4, 2) := by decide +kernel
theorem d5_16 : decode jdk_2316_method_7_code 16 = .ok (.ifCond .ge 14, 3) := by decide +kernel
theorem d5_30 : decode jdk_2316_method_7_code 30 = .ok (.lload_n 2, 1) := by decide +kernel
theorem d5_31 : decode jdk_2316_method_7_code 31 = .ok (.iload 4, 2) := by decide +kernel
theorem pd_2 : parseMethodDescriptor "(JI)Ljava/time/Duration;" = some ⟨[.long, .int], some (.object "java/time/Duration")⟩ := by decide +kernel
theorem d5_33 : decode jdk_2316_method_7_code 33 = .ok (.invokestatic 10, 3) := by decide +kernel
theorem d5_36 : decode jdk_2316_method_7_code 36 = .ok (.areturn, 1) := by decide +kernel
theorem ef_5 (m : MethodId) (x0 : Int64) : entryFrame m #[(.long x0)] 5 = mkF m 0 #[.val (.long x0), .second, .unset, .unset, .unset] [] := by first | (simp [entryFrame, mkF, argsToLocals, Value.category]; done) | rfl
abbrev nm_5 : MethodName := ⟨"java/time/Duration", "ofNanos", "(J)Ljava/time/Duration;"⟩
set_option maxRecDepth 65536 in
set_option maxHeartbeats 40000000 in
theorem rm5 (l : Launch) (Z : State) (a0 : Array Value) (hw : ∀ d ∈ tables_1, d.before a0 Z = true) (ws : List Jvm.Cond)  (h0 : Heap) (n0 : Nat) (Z0 : n0 ≤ h0.size) :
    MetFree l nm_5 (head1 (Jvm.Cond.code nm_5 jdk_2316_method_7_code 5 (some (.object "java/time/Duration")) :: ws) rr_3_1_2_42) (fun aa zU => aa = #[(.long (1 : Int64))] ∧ Z.Warmed39 zU.vm ∧ zU.heap = h0) (fun _ _ _ _ _ => True) (fun _ zU zo zU' => ∃ zv zL, zo = .returned zv ∧ QE (fun b h => DuAt Z h b (.long (0 : Int64)) (.int (1 : Int32))) [] h0 n0 zv zU'.heap zL ∧ FrameEnd zU zo zU' zL rr_3_1_2_42.cells rr_3_1_2_42.slots) := by
  refine MetFree.of_bodySF (plainFor_of_name pn_java_time_Duration) hisR ?_
  intro p e s m args below meth c s₁ Bd hml0 hP hK
  obtain ⟨rfl, hZ, hh⟩ := hP
  have hx := Bd.exec
  have hby := Bd.bytes
  have hml : c.maxLocals = 5 := hml0
  have hown : s.vm.findClass "java/time/Duration" = some m.cls := findClass_of_methodNamed Bd.named
  have hnm := (name_of_methodNamed Bd.named Bd.method).1
  have X0 : Stand p l e rr_3_1_2_42 s m #[(.long (1 : Int64))] below meth c s₁ [] 0 0 := Stand.of_body Bd
  have e0 : s₁.heap = h0 := by rw [← hh, Bd.state]; rfl
  have N0 := Fr.nil n0
  have pre0 : ∀ t, Steps p.tables e below (s₁.setTop (mkF m 0 #[.val (.long (1 : Int64)), .second, .unset, .unset, .unset] [])) t → Steps p.tables e below (s₁.setTop (entryFrame m #[(.long (1 : Int64))] 5)) t := fun t k => castTop (ef_5 m (1 : Int64)) k
  obtain ⟨_, _, ⟨T1, L1, k1, n1⟩, -, X1, ⟨Lc1, hQ1, l1, y1, z1⟩, st1⟩ := Jvm.LawKit.callS X0 hx (y := nm_6) hown (mvT hZ (ow hw 35 rfl)) (mvT hZ (ow hw 36 rfl)) (mvT hZ (ow hw 32 rfl)) (mvT hZ (ow hw 37 rfl)) (by decide) (backOf (W := 0) (rm6 l Z a0 hw [] h0 n0 Z0) hZ (ow hw 37 rfl) (ow hw 32 rfl) (by decide) (by decide)) (g := (mkF m 33 #[.val (.long (1 : Int64)), .second, .val (.long (0 : Int64)), .second, .val (.int (1 : Int32))] [(.int (1 : Int32)), (.long (0 : Int64))])) rfl (by rw [hml]; rfl) (argsL := [(.long (0 : Int64)), (.int (1 : Int32))]) (rest := []) (lenOf pd_2 rfl) rfl (by show 2 * 0 + _ ≤ _; exact Nat.le_of_eq rfl) (hb hby d5_33) (fun _ _ => ⟨rfl, e0, (by decide : 0 + 1 ≤ _), (by decide : 0 + 2 ≤ _)⟩)
  dsimp only [Pt.U, Pt.locs, Pt.cells, Pt.slots] at X1 l1 y1 z1 st1 hQ1
  subst l1 y1 z1
  obtain ⟨bb1, rfl, N1q, K1, gb1, sb1, P01⟩ := hQ1
  have N1 := Fr.app N0 N1q
  have kp2 : Keep h0 T1.heap [] := ((Keep.refl h0 []).trans K1 all0)
  obtain ⟨fsq, hr, hrun, hended, hW, hsame⟩ := X1.leave (v := some (.ref bb1)) (fun h => by rw [Bd.returns] at h; cases h)
  refine ⟨_, _, pre0 _ ?_, hrun, hended, _, _, rfl, ?_, ⟨_, rfl⟩, hW, hsame.mono (by decide) (by decide)⟩
  · show Steps p.tables e below (s₁.setTop (mkF m 0 #[.val (.long (1 : Int64)), .second, .unset, .unset, .unset] [])) _
    refine XS.lloadN X0.here hx rfl (hb hby d5_0) rfl ?_
    refine X0.ldc2Long hx hown (mvT hZ (ow hw 34 rfl)) (g := (mkF m 1 #[.val (.long (1 : Int64)), .second, .unset, .unset, .unset] [(.long (1 : Int64))])) rfl (hb hby d5_1) _ ?_
    refine XS.ldiv X0.here hx rfl (hb hby d5_4) rfl (by decide) ?_
    show Steps p.tables e below (s₁.setTop (mkF m 5 #[.val (.long (1 : Int64)), .second, .unset, .unset, .unset] [(.long ((1 : Int64) / (1000000000 : Int64)))])) _
    rw [own_dq]
    refine XS.lstoreN X0.here hx rfl (hb hby d5_5) rfl (l' := #[.val (.long (1 : Int64)), .second, .val (.long (0 : Int64)), .second, .unset]) rfl ?_
    refine XS.lloadN X0.here hx rfl (hb hby d5_6) rfl ?_
    refine X0.ldc2Long hx hown (mvT hZ (ow hw 34 rfl)) (g := (mkF m 7 #[.val (.long (1 : Int64)), .second, .val (.long (0 : Int64)), .second, .unset] [(.long (1 : Int64))])) rfl (hb hby d5_7) _ ?_
    show Steps p.tables e below (s₁.setTop (mkF m 10 #[.val (.long (1 : Int64)), .second, .val (.long (0 : Int64)), .second, .unset] [(.long (1000000000 : Int64)), (.long (1 : Int64))])) _
    refine XS.lrem X0.here hx rfl (hb hby d5_10) rfl (by decide) ?_
    refine XS.l2i X0.here hx rfl (hb hby d5_11) rfl ?_
    show Steps p.tables e below (s₁.setTop (mkF m 12 #[.val (.long (1 : Int64)), .second, .val (.long (0 : Int64)), .second, .unset] [(.int (((1 : Int64) - ((1 : Int64) / (1000000000 : Int64)) * (1000000000 : Int64)).toInt32))])) _
    rw [own_dr]
    refine XS.istore X0.here hx rfl (hb hby d5_12) rfl (l' := #[.val (.long (1 : Int64)), .second, .val (.long (0 : Int64)), .second, .val (.int (1 : Int32))]) rfl ?_
    show Steps p.tables e below (s₁.setTop (mkF m 14 #[.val (.long (1 : Int64)), .second, .val (.long (0 : Int64)), .second, .val (.int (1 : Int32))] [])) _
    refine XS.iload X0.here hx rfl (hb hby d5_14) rfl ?_
    refine XS.ifYes X0.here hx rfl (pc0 := 16) (pc' := 30) rfl (hb hby d5_16) rfl ((if0 _ _).trans (flt ((by decide) : ¬ ((1 : Int32) < (0 : Int32)))).2.1) (by decide) (by decide) ?_
    refine XS.lloadN X0.here hx rfl (hb hby d5_30) rfl ?_
    show Steps p.tables e below (s₁.setTop (mkF m 31 #[.val (.long (1 : Int64)), .second, .val (.long (0 : Int64)), .second, .val (.int (1 : Int32))] [(.long (0 : Int64))])) _
    refine XS.iload X0.here hx rfl (hb hby d5_31) rfl ?_
    refine st1 _ ?_
    show Steps p.tables e below (T1.setTop (mkF m 36 #[.val (.long (1 : Int64)), .second, .val (.long (0 : Int64)), .second, .val (.int (1 : Int32))] [(.ref bb1)])) _
    exact retOut X1 hx Bd.returns rfl (Or.inr (Or.inr (Or.inr (Or.inr ⟨rfl, rfl, rfl⟩)))) (hb hby d5_36) hr
  · show QE (fun b h => DuAt Z h b (.long (0 : Int64)) (.int (1 : Int32))) [] h0 n0 _ T1.heap _
    exact ⟨_, rfl, N1, kp2, gb1, sb1, P01⟩
theorem d12_0 : decode jdk_35_method_42_code 0 = .ok (.lload_n 0, 1) := by decide +kernel
theorem d12_1 : decode jdk_35_method_42_code 1 = .ok (.lload_n 2, 1) := by decide +kernel
theorem d12_2 : decode jdk_35_method_42_code 2 = .ok (.lcmp, 1) := by decide +kernel
theorem d12_3 : decode jdk_35_method_42_code 3 = .ok (.ifCond .ge 7, 3) := by decide +kernel
theorem d12_10 : decode jdk_35_method_42_code 10 = .ok (.lload_n 0, 1) := by decide +kernel
theorem d12_11 : decode jdk_35_method_42_code 11 = .ok (.lload_n 2, 1) := by decide +kernel
theorem d12_12 : decode jdk_35_method_42_code 12 = .ok (.lcmp, 1) := by decide +kernel
theorem d12_13 : decode jdk_35_method_42_code 13 = .ok (.ifCond .ne 7, 3) := by decide +kernel
theorem d12_16 : decode jdk_35_method_42_code 16 = .ok (.iconst 0, 1) := by decide +kernel
theorem d12_17 : decode jdk_35_method_42_code 17 = .ok (.goto 4, 3) := by decide +kernel
theorem d12_21 : decode jdk_35_method_42_code 21 = .ok (.ireturn, 1) := by decide +kernel
theorem pn_java_lang_Long : plainName "java/lang/Long" = true := by first | (simp [plainName, overriddenIn]; done) | decide +kernel
theorem ef_12 (m : MethodId) (x0 : Int64) (x1 : Int64) : entryFrame m #[(.long x0), (.long x1)] 4 = mkF m 0 #[.val (.long x0), .second, .val (.long x1), .second] [] := by first | (simp [entryFrame, mkF, argsToLocals, Value.category]; done) | rfl
abbrev nm_12 : MethodName := ⟨"java/lang/Long", "compare", "(JJ)I"⟩
set_option maxRecDepth 65536 in
set_option maxHeartbeats 40000000 in
theorem rm12_e (l : Launch) (Z : State) (a0 : Array Value) (hw : ∀ d ∈ tables_1, d.before a0 Z = true) (ws : List Jvm.Cond)  (h0 : Heap) (n0 : Nat) (Z0 : n0 ≤ h0.size) :
    MetFree l nm_12 (head1 (Jvm.Cond.code nm_12 jdk_35_method_42_code 4 (some .int) :: ws) rr0) (fun aa zU => aa = #[(.long (0 : Int64)), (.long (0 : Int64))] ∧ Z.Warmed39 zU.vm ∧ zU.heap = h0) (fun _ _ _ _ _ => True) (fun _ zU zo zU' => ∃ zv zL, zo = .returned zv ∧ QP (some (.int (0 : Int32))) h0 n0 zv zU'.heap zL ∧ FrameEnd zU zo zU' zL rr0.cells rr0.slots) := by
  refine MetFree.of_bodySF (plainFor_of_name pn_java_lang_Long) hisR ?_
  intro p e s m args below meth c s₁ Bd hml0 hP hK
  obtain ⟨rfl, hZ, hh⟩ := hP
  have hx := Bd.exec
  have hby := Bd.bytes
  have hml : c.maxLocals = 4 := hml0
  have hown : s.vm.findClass "java/lang/Long" = some m.cls := findClass_of_methodNamed Bd.named
  have hnm := (name_of_methodNamed Bd.named Bd.method).1
  have X0 : Stand p l e rr0 s m #[(.long (0 : Int64)), (.long (0 : Int64))] below meth c s₁ [] 0 0 := Stand.of_body Bd
  have e0 : s₁.heap = h0 := by rw [← hh, Bd.state]; rfl
  have N0 := Fr.nil n0
  have pre0 : ∀ t, Steps p.tables e below (s₁.setTop (mkF m 0 #[.val (.long (0 : Int64)), .second, .val (.long (0 : Int64)), .second] [])) t → Steps p.tables e below (s₁.setTop (entryFrame m #[(.long (0 : Int64)), (.long (0 : Int64))] 4)) t := fun t k => castTop (ef_12 m (0 : Int64) (0 : Int64)) k
  obtain ⟨fsq, hr, hrun, hended, hW, hsame⟩ := X0.leave (v := some (.int (0 : Int32))) (fun h => by rw [Bd.returns] at h; cases h)
  refine ⟨_, _, pre0 _ ?_, hrun, hended, _, _, rfl, ?_, ⟨_, rfl⟩, hW, hsame.mono (by decide) (by decide)⟩
  · show Steps p.tables e below (s₁.setTop (mkF m 0 #[.val (.long (0 : Int64)), .second, .val (.long (0 : Int64)), .second] [])) _
    refine XS.lloadN X0.here hx rfl (hb hby d12_0) rfl ?_
    refine XS.lloadN X0.here hx rfl (hb hby d12_1) rfl ?_
    refine XS.lcmp X0.here hx rfl (hb hby d12_2) rfl ?_
    show Steps p.tables e below (s₁.setTop (mkF m 3 #[.val (.long (0 : Int64)), .second, .val (.long (0 : Int64)), .second] [(.int (lcmpW (0 : Int64) (0 : Int64)))])) _
    refine XS.ifYes X0.here hx rfl (pc0 := 3) (pc' := 10) rfl (hb hby d12_3) rfl ((if0 _ _).trans (flt (fun z => ((by decide) : ¬ ((0 : Int64) < (0 : Int64))) ((lw_lt _ _).mp z))).2.1) (by decide) (by decide) ?_
    refine XS.lloadN X0.here hx rfl (hb hby d12_10) rfl ?_
    refine XS.lloadN X0.here hx rfl (hb hby d12_11) rfl ?_
    show Steps p.tables e below (s₁.setTop (mkF m 12 #[.val (.long (0 : Int64)), .second, .val (.long (0 : Int64)), .second] [(.long (0 : Int64)), (.long (0 : Int64))])) _
    refine XS.lcmp X0.here hx rfl (hb hby d12_12) rfl ?_
    refine XS.ifNo X0.here hx rfl (hb hby d12_13) rfl ((if0 _ _).trans (teq ((lw_eq _ _).mpr (rfl : (0 : Int64) = (0 : Int64)))).2) ?_
    refine XS.iconst X0.here hx rfl (hb hby d12_16) ?_
    show Steps p.tables e below (s₁.setTop (mkF m 17 #[.val (.long (0 : Int64)), .second, .val (.long (0 : Int64)), .second] [(.int (0 : Int32))])) _
    refine XS.goto X0.here hx rfl (pc0 := 17) (pc' := 21) rfl (hb hby d12_17) (by decide) (by decide) ?_
    show Steps p.tables e below (s₁.setTop (mkF m 21 #[.val (.long (0 : Int64)), .second, .val (.long (0 : Int64)), .second] [(.int (0 : Int32))])) _
    exact retI X0 hx Bd.returns (hb hby d12_21) hr
  · show QP (some (.int (0 : Int32))) h0 n0 _ s₁.heap _
    rw [e0]
    exact ⟨rfl, N0, rfl⟩
theorem d12_6 : decode jdk_35_method_42_code 6 = .ok (.iconst (-1), 1) := by decide +kernel
theorem d12_7 : decode jdk_35_method_42_code 7 = .ok (.goto 14, 3) := by decide +kernel
set_option maxRecDepth 65536 in
set_option maxHeartbeats 40000000 in
theorem rm12_l (l : Launch) (Z : State) (a0 : Array Value) (hw : ∀ d ∈ tables_1, d.before a0 Z = true) (ws : List Jvm.Cond)  (h0 : Heap) (n0 : Nat) (Z0 : n0 ≤ h0.size) :
    MetFree l nm_12 (head1 (Jvm.Cond.code nm_12 jdk_35_method_42_code 4 (some .int) :: ws) rr0) (fun aa zU => aa = #[(.long (0 : Int64)), (.long (9223372036 : Int64))] ∧ Z.Warmed39 zU.vm ∧ zU.heap = h0) (fun _ _ _ _ _ => True) (fun _ zU zo zU' => ∃ zv zL, zo = .returned zv ∧ QP (some (.int (-1 : Int32))) h0 n0 zv zU'.heap zL ∧ FrameEnd zU zo zU' zL rr0.cells rr0.slots) := by
  refine MetFree.of_bodySF (plainFor_of_name pn_java_lang_Long) hisR ?_
  intro p e s m args below meth c s₁ Bd hml0 hP hK
  obtain ⟨rfl, hZ, hh⟩ := hP
  have hx := Bd.exec
  have hby := Bd.bytes
  have hml : c.maxLocals = 4 := hml0
  have hown : s.vm.findClass "java/lang/Long" = some m.cls := findClass_of_methodNamed Bd.named
  have hnm := (name_of_methodNamed Bd.named Bd.method).1
  have X0 : Stand p l e rr0 s m #[(.long (0 : Int64)), (.long (9223372036 : Int64))] below meth c s₁ [] 0 0 := Stand.of_body Bd
  have e0 : s₁.heap = h0 := by rw [← hh, Bd.state]; rfl
  have N0 := Fr.nil n0
  have pre0 : ∀ t, Steps p.tables e below (s₁.setTop (mkF m 0 #[.val (.long (0 : Int64)), .second, .val (.long (9223372036 : Int64)), .second] [])) t → Steps p.tables e below (s₁.setTop (entryFrame m #[(.long (0 : Int64)), (.long (9223372036 : Int64))] 4)) t := fun t k => castTop (ef_12 m (0 : Int64) (9223372036 : Int64)) k
  obtain ⟨fsq, hr, hrun, hended, hW, hsame⟩ := X0.leave (v := some (.int (-1 : Int32))) (fun h => by rw [Bd.returns] at h; cases h)
  refine ⟨_, _, pre0 _ ?_, hrun, hended, _, _, rfl, ?_, ⟨_, rfl⟩, hW, hsame.mono (by decide) (by decide)⟩
  · show Steps p.tables e below (s₁.setTop (mkF m 0 #[.val (.long (0 : Int64)), .second, .val (.long (9223372036 : Int64)), .second] [])) _
    refine XS.lloadN X0.here hx rfl (hb hby d12_0) rfl ?_
    refine XS.lloadN X0.here hx rfl (hb hby d12_1) rfl ?_
    refine XS.lcmp X0.here hx rfl (hb hby d12_2) rfl ?_
    show Steps p.tables e below (s₁.setTop (mkF m 3 #[.val (.long (0 : Int64)), .second, .val (.long (9223372036 : Int64)), .second] [(.int (lcmpW (0 : Int64) (9223372036 : Int64)))])) _
    refine XS.ifNo X0.here hx rfl (hb hby d12_3) rfl ((if0 _ _).trans (tlt ((lw_lt _ _).mpr ((by decide) : (0 : Int64) < (9223372036 : Int64)))).2.1) ?_
    refine XS.iconst X0.here hx rfl (hb hby d12_6) ?_
    refine XS.goto X0.here hx rfl (pc0 := 7) (pc' := 21) rfl (hb hby d12_7) (by decide) (by decide) ?_
    show Steps p.tables e below (s₁.setTop (mkF m 21 #[.val (.long (0 : Int64)), .second, .val (.long (9223372036 : Int64)), .second] [(.int (-1 : Int32))])) _
    exact retI X0 hx Bd.returns (hb hby d12_21) hr
  · show QP (some (.int (-1 : Int32))) h0 n0 _ s₁.heap _
    rw [e0]
    exact ⟨rfl, N0, rfl⟩
abbrev rr_1_0_0_15 : Room := { frames := 1, cells := 0, slots := 0, locals := 15 }
theorem d11_0 : decode jdk_2316_method_66_code 0 = .ok (.aload_n 0, 1) := by decide +kernel
theorem d11_1 : decode jdk_2316_method_66_code 1 = .ok (.getfield 221, 3) := by decide +kernel
theorem d11_4 : decode jdk_2316_method_66_code 4 = .ok (.aload_n 1, 1) := by decide +kernel
theorem d11_5 : decode jdk_2316_method_66_code 5 = .ok (.getfield 221, 3) := by decide +kernel
theorem pd_7 : parseMethodDescriptor "(JJ)I" = some ⟨[.long, .long], some .int⟩ := by decide +kernel
theorem d11_8 : decode jdk_2316_method_66_code 8 = .ok (.invokestatic 416, 3) := by decide +kernel
theorem d11_11 : decode jdk_2316_method_66_code 11 = .ok (.istore_n 2, 1) := by decide +kernel
theorem d11_12 : decode jdk_2316_method_66_code 12 = .ok (.iload_n 2, 1) := by decide +kernel
theorem d11_13 : decode jdk_2316_method_66_code 13 = .ok (.ifCond .eq 5, 3) := by decide +kernel
theorem d11_18 : decode jdk_2316_method_66_code 18 = .ok (.aload_n 0, 1) := by decide +kernel
theorem d11_19 : decode jdk_2316_method_66_code 19 = .ok (.getfield 224, 3) := by decide +kernel
theorem d11_22 : decode jdk_2316_method_66_code 22 = .ok (.aload_n 1, 1) := by decide +kernel
theorem d11_23 : decode jdk_2316_method_66_code 23 = .ok (.getfield 224, 3) := by decide +kernel
theorem d11_26 : decode jdk_2316_method_66_code 26 = .ok (.isub, 1) := by decide +kernel
theorem d11_27 : decode jdk_2316_method_66_code 27 = .ok (.ireturn, 1) := by decide +kernel
theorem ef_11 (m : MethodId) (x0 : Addr) (x1 : Addr) : entryFrame m #[(.ref x0), (.ref x1)] 3 = mkF m 0 #[.val (.ref x0), .val (.ref x1), .unset] [] := by first | (simp [entryFrame, mkF, argsToLocals, Value.category]; done) | rfl
abbrev nm_11 : MethodName := ⟨"java/time/Duration", "compareTo", "(Ljava/time/Duration;)I"⟩
set_option maxRecDepth 65536 in
set_option maxHeartbeats 40000000 in
theorem rm11_z (l : Launch) (Z : State) (a0 : Array Value) (hw : ∀ d ∈ tables_1, d.before a0 Z = true) (ws : List Jvm.Cond) (a1 : Addr) (a2 : Addr) (h0 : Heap) (n0 : Nat) (Z0 : n0 ≤ h0.size) (FSa1 : Fld Z h0 a1 "java/time/Duration" "seconds" "J" (.long (0 : Int64))) (FNa1 : Fld Z h0 a1 "java/time/Duration" "nanos" "I" (.int (1 : Int32))) (FSa2 : Fld Z h0 a2 "java/time/Duration" "seconds" "J" (.long (0 : Int64))) (FNa2 : Fld Z h0 a2 "java/time/Duration" "nanos" "I" (.int (0 : Int32))) :
    MetFree l nm_11 (head1 (Jvm.Cond.code nm_11 jdk_2316_method_66_code 3 (some .int) :: ws) rr_1_0_0_15) (fun aa zU => aa = #[(.ref a1), (.ref a2)] ∧ Z.Warmed39 zU.vm ∧ zU.heap = h0) (fun _ _ _ _ _ => True) (fun _ zU zo zU' => ∃ zv zL, zo = .returned zv ∧ QP (some (.int (1 : Int32))) h0 n0 zv zU'.heap zL ∧ FrameEnd zU zo zU' zL rr_1_0_0_15.cells rr_1_0_0_15.slots) := by
  refine MetFree.of_bodySF (plainFor_of_name pn_java_time_Duration) hisR ?_
  intro p e s m args below meth c s₁ Bd hml0 hP hK
  obtain ⟨rfl, hZ, hh⟩ := hP
  have hx := Bd.exec
  have hby := Bd.bytes
  have hml : c.maxLocals = 3 := hml0
  have hown : s.vm.findClass "java/time/Duration" = some m.cls := findClass_of_methodNamed Bd.named
  have hnm := (name_of_methodNamed Bd.named Bd.method).1
  have X0 : Stand p l e rr_1_0_0_15 s m #[(.ref a1), (.ref a2)] below meth c s₁ [] 0 0 := Stand.of_body Bd
  have e0 : s₁.heap = h0 := by rw [← hh, Bd.state]; rfl
  have N0 := Fr.nil n0
  have pre0 : ∀ t, Steps p.tables e below (s₁.setTop (mkF m 0 #[.val (.ref a1), .val (.ref a2), .unset] [])) t → Steps p.tables e below (s₁.setTop (entryFrame m #[(.ref a1), (.ref a2)] 3)) t := fun t k => castTop (ef_11 m a1 a2) k
  obtain ⟨T1, X1, e1, st1⟩ := getF X0 hx hZ hown (host := "") (Or.inl (ow hw 45 rfl)) Via.refl e0 FSa1 (g := (mkF m 1 #[.val (.ref a1), .val (.ref a2), .unset] [(.ref a1)])) rfl rfl (hb hby d11_1)
  obtain ⟨T2, X2, e2, st2⟩ := getF X1 hx hZ hown (host := "") (Or.inl (ow hw 45 rfl)) Via.refl e1 FSa2 (g := (mkF m 5 #[.val (.ref a1), .val (.ref a2), .unset] [(.ref a2), (.long (0 : Int64))])) rfl rfl (hb hby d11_5)
  obtain ⟨_, _, ⟨T3, L3, k3, n3⟩, -, X3, ⟨Lc3, hQ3, l3, y3, z3⟩, st3⟩ := Jvm.LawKit.callS X2 hx (y := nm_12) hown (mvT hZ (ow hw 76 rfl)) (mvT hZ (ow hw 77 rfl)) (mvT hZ (ow hw 78 rfl)) (mvT hZ (ow hw 79 rfl)) (by decide) (backOf (W := 0) (rm12_e l Z a0 hw [] h0 n0 Z0) hZ (ow hw 79 rfl) (ow hw 78 rfl) (by decide) (by decide)) (g := (mkF m 8 #[.val (.ref a1), .val (.ref a2), .unset] [(.long (0 : Int64)), (.long (0 : Int64))])) rfl (by rw [hml]; rfl) (argsL := [(.long (0 : Int64)), (.long (0 : Int64))]) (rest := []) (lenOf pd_7 rfl) rfl (by show 2 * 0 + _ ≤ _; exact Nat.le_of_eq rfl) (hb hby d11_8) (fun _ _ => ⟨rfl, e2, (by decide : 0 + 0 ≤ _), (by decide : 0 + 0 ≤ _)⟩)
  dsimp only [Pt.U, Pt.locs, Pt.cells, Pt.slots] at X3 l3 y3 z3 st3 hQ3
  subst l3 y3 z3
  obtain ⟨rfl, N3q, e3⟩ := hQ3
  have N3 := Fr.app N0 N3q
  obtain ⟨T4, X4, e4, st4⟩ := getF X3 hx hZ hown (host := "") (Or.inl (ow hw 47 rfl)) Via.refl e3 FNa1 (g := (mkF m 19 #[.val (.ref a1), .val (.ref a2), .val (.int (0 : Int32))] [(.ref a1)])) rfl rfl (hb hby d11_19)
  obtain ⟨T5, X5, e5, st5⟩ := getF X4 hx hZ hown (host := "") (Or.inl (ow hw 47 rfl)) Via.refl e4 FNa2 (g := (mkF m 23 #[.val (.ref a1), .val (.ref a2), .val (.int (0 : Int32))] [(.ref a2), (.int (1 : Int32))])) rfl rfl (hb hby d11_23)
  obtain ⟨fsq, hr, hrun, hended, hW, hsame⟩ := X5.leave (v := some (.int (1 : Int32))) (fun h => by rw [Bd.returns] at h; cases h)
  refine ⟨_, _, pre0 _ ?_, hrun, hended, _, _, rfl, ?_, ⟨_, rfl⟩, hW, hsame.mono (by decide) (by decide)⟩
  · show Steps p.tables e below (s₁.setTop (mkF m 0 #[.val (.ref a1), .val (.ref a2), .unset] [])) _
    refine XS.aloadN X0.here hx rfl (hb hby d11_0) rfl rfl ?_
    refine st1 _ ?_
    refine XS.aloadN X1.here hx rfl (hb hby d11_4) rfl rfl ?_
    show Steps p.tables e below (T1.setTop (mkF m 5 #[.val (.ref a1), .val (.ref a2), .unset] [(.ref a2), (.long (0 : Int64))])) _
    refine st2 _ ?_
    refine st3 _ ?_
    refine XS.istoreN X3.here hx rfl (hb hby d11_11) rfl (l' := #[.val (.ref a1), .val (.ref a2), .val (.int (0 : Int32))]) rfl ?_
    show Steps p.tables e below (T3.setTop (mkF m 12 #[.val (.ref a1), .val (.ref a2), .val (.int (0 : Int32))] [])) _
    refine XS.iloadN X3.here hx rfl (hb hby d11_12) rfl ?_
    refine XS.ifYes X3.here hx rfl (pc0 := 13) (pc' := 18) rfl (hb hby d11_13) rfl ((if0 _ _).trans (teq (rfl : (0 : Int32) = (0 : Int32))).1) (by decide) (by decide) ?_
    refine XS.aloadN X3.here hx rfl (hb hby d11_18) rfl rfl ?_
    show Steps p.tables e below (T3.setTop (mkF m 19 #[.val (.ref a1), .val (.ref a2), .val (.int (0 : Int32))] [(.ref a1)])) _
    refine st4 _ ?_
    refine XS.aloadN X4.here hx rfl (hb hby d11_22) rfl rfl ?_
    refine st5 _ ?_
    show Steps p.tables e below (T5.setTop (mkF m 26 #[.val (.ref a1), .val (.ref a2), .val (.int (0 : Int32))] [(.int (0 : Int32)), (.int (1 : Int32))])) _
    refine XS.isub X5.here hx rfl (hb hby d11_26) rfl ?_
    show Steps p.tables e below (T5.setTop (mkF m 27 #[.val (.ref a1), .val (.ref a2), .val (.int (0 : Int32))] [(.int ((1 : Int32) - (0 : Int32)))])) _
    rw [own_10]
    exact retI X5 hx Bd.returns (hb hby d11_27) hr
  · show QP (some (.int (1 : Int32))) h0 n0 _ T5.heap _
    rw [e5]
    exact ⟨rfl, N3, rfl⟩
theorem d11_16 : decode jdk_2316_method_66_code 16 = .ok (.iload_n 2, 1) := by decide +kernel
theorem d11_17 : decode jdk_2316_method_66_code 17 = .ok (.ireturn, 1) := by decide +kernel
set_option maxRecDepth 65536 in
set_option maxHeartbeats 40000000 in
theorem rm11_b (l : Launch) (Z : State) (a0 : Array Value) (hw : ∀ d ∈ tables_1, d.before a0 Z = true) (ws : List Jvm.Cond) (a1 : Addr) (a2 : Addr) (h0 : Heap) (n0 : Nat) (Z0 : n0 ≤ h0.size) (FS1 : Fld Z h0 a1 "java/time/Duration" "seconds" "J" (.long (0 : Int64))) (FS2 : Fld Z h0 a2 "java/time/Duration" "seconds" "J" (.long (9223372036 : Int64))) :
    MetFree l nm_11 (head1 (Jvm.Cond.code nm_11 jdk_2316_method_66_code 3 (some .int) :: ws) rr_1_0_0_15) (fun aa zU => aa = #[(.ref a1), (.ref a2)] ∧ Z.Warmed39 zU.vm ∧ zU.heap = h0) (fun _ _ _ _ _ => True) (fun _ zU zo zU' => ∃ zv zL, zo = .returned zv ∧ QP (some (.int (-1 : Int32))) h0 n0 zv zU'.heap zL ∧ FrameEnd zU zo zU' zL rr_1_0_0_15.cells rr_1_0_0_15.slots) := by
  refine MetFree.of_bodySF (plainFor_of_name pn_java_time_Duration) hisR ?_
  intro p e s m args below meth c s₁ Bd hml0 hP hK
  obtain ⟨rfl, hZ, hh⟩ := hP
  have hx := Bd.exec
  have hby := Bd.bytes
  have hml : c.maxLocals = 3 := hml0
  have hown : s.vm.findClass "java/time/Duration" = some m.cls := findClass_of_methodNamed Bd.named
  have hnm := (name_of_methodNamed Bd.named Bd.method).1
  have X0 : Stand p l e rr_1_0_0_15 s m #[(.ref a1), (.ref a2)] below meth c s₁ [] 0 0 := Stand.of_body Bd
  have e0 : s₁.heap = h0 := by rw [← hh, Bd.state]; rfl
  have N0 := Fr.nil n0
  have pre0 : ∀ t, Steps p.tables e below (s₁.setTop (mkF m 0 #[.val (.ref a1), .val (.ref a2), .unset] [])) t → Steps p.tables e below (s₁.setTop (entryFrame m #[(.ref a1), (.ref a2)] 3)) t := fun t k => castTop (ef_11 m a1 a2) k
  obtain ⟨T1, X1, e1, st1⟩ := getF X0 hx hZ hown (host := "") (Or.inl (ow hw 45 rfl)) Via.refl e0 FS1 (g := (mkF m 1 #[.val (.ref a1), .val (.ref a2), .unset] [(.ref a1)])) rfl rfl (hb hby d11_1)
  obtain ⟨T2, X2, e2, st2⟩ := getF X1 hx hZ hown (host := "") (Or.inl (ow hw 45 rfl)) Via.refl e1 FS2 (g := (mkF m 5 #[.val (.ref a1), .val (.ref a2), .unset] [(.ref a2), (.long (0 : Int64))])) rfl rfl (hb hby d11_5)
  obtain ⟨_, _, ⟨T3, L3, k3, n3⟩, -, X3, ⟨Lc3, hQ3, l3, y3, z3⟩, st3⟩ := Jvm.LawKit.callS X2 hx (y := nm_12) hown (mvT hZ (ow hw 76 rfl)) (mvT hZ (ow hw 77 rfl)) (mvT hZ (ow hw 78 rfl)) (mvT hZ (ow hw 79 rfl)) (by decide) (backOf (W := 0) (rm12_l l Z a0 hw [] h0 n0 Z0) hZ (ow hw 79 rfl) (ow hw 78 rfl) (by decide) (by decide)) (g := (mkF m 8 #[.val (.ref a1), .val (.ref a2), .unset] [(.long (9223372036 : Int64)), (.long (0 : Int64))])) rfl (by rw [hml]; rfl) (argsL := [(.long (0 : Int64)), (.long (9223372036 : Int64))]) (rest := []) (lenOf pd_7 rfl) rfl (by show 2 * 0 + _ ≤ _; exact Nat.le_of_eq rfl) (hb hby d11_8) (fun _ _ => ⟨rfl, e2, (by decide : 0 + 0 ≤ _), (by decide : 0 + 0 ≤ _)⟩)
  dsimp only [Pt.U, Pt.locs, Pt.cells, Pt.slots] at X3 l3 y3 z3 st3 hQ3
  subst l3 y3 z3
  obtain ⟨rfl, N3q, e3⟩ := hQ3
  have N3 := Fr.app N0 N3q
  obtain ⟨fsq, hr, hrun, hended, hW, hsame⟩ := X3.leave (v := some (.int (-1 : Int32))) (fun h => by rw [Bd.returns] at h; cases h)
  refine ⟨_, _, pre0 _ ?_, hrun, hended, _, _, rfl, ?_, ⟨_, rfl⟩, hW, hsame.mono (by decide) (by decide)⟩
  · show Steps p.tables e below (s₁.setTop (mkF m 0 #[.val (.ref a1), .val (.ref a2), .unset] [])) _
    refine XS.aloadN X0.here hx rfl (hb hby d11_0) rfl rfl ?_
    refine st1 _ ?_
    refine XS.aloadN X1.here hx rfl (hb hby d11_4) rfl rfl ?_
    show Steps p.tables e below (T1.setTop (mkF m 5 #[.val (.ref a1), .val (.ref a2), .unset] [(.ref a2), (.long (0 : Int64))])) _
    refine st2 _ ?_
    refine st3 _ ?_
    refine XS.istoreN X3.here hx rfl (hb hby d11_11) rfl (l' := #[.val (.ref a1), .val (.ref a2), .val (.int (-1 : Int32))]) rfl ?_
    show Steps p.tables e below (T3.setTop (mkF m 12 #[.val (.ref a1), .val (.ref a2), .val (.int (-1 : Int32))] [])) _
    refine XS.iloadN X3.here hx rfl (hb hby d11_12) rfl ?_
    refine XS.ifNo X3.here hx rfl (hb hby d11_13) rfl ((if0 _ _).trans (feq ((by decide) : ¬ ((-1 : Int32) = (0 : Int32)))).1) ?_
    refine XS.iloadN X3.here hx rfl (hb hby d11_16) rfl ?_
    show Steps p.tables e below (T3.setTop (mkF m 17 #[.val (.ref a1), .val (.ref a2), .val (.int (-1 : Int32))] [(.int (-1 : Int32))])) _
    exact retI X3 hx Bd.returns (hb hby d11_17) hr
  · show QP (some (.int (-1 : Int32))) h0 n0 _ T3.heap _
    rw [e3]
    exact ⟨rfl, N3, rfl⟩
theorem d10_0 : decode jdk_31_method_11_code 0 = .ok (.aload_n 0, 1) := by decide +kernel
theorem d10_1 : decode jdk_31_method_11_code 1 = .ok (.ifnonnull 12, 3) := by decide +kernel
theorem d10_13 : decode jdk_31_method_11_code 13 = .ok (.aload_n 0, 1) := by decide +kernel
theorem d10_14 : decode jdk_31_method_11_code 14 = .ok (.areturn, 1) := by decide +kernel
theorem pn_java_util_Objects : plainName "java/util/Objects" = true := by first | (simp [plainName, overriddenIn]; done) | decide +kernel
theorem ef_10 (m : MethodId) (x0 : Addr) (x1 : Addr) : entryFrame m #[(.ref x0), (.ref x1)] 2 = mkF m 0 #[.val (.ref x0), .val (.ref x1)] [] := by first | (simp [entryFrame, mkF, argsToLocals, Value.category]; done) | rfl
abbrev nm_10 : MethodName := ⟨"java/util/Objects", "requireNonNull", "(Ljava/lang/Object;Ljava/lang/String;)Ljava/lang/Object;"⟩
set_option maxRecDepth 65536 in
set_option maxHeartbeats 40000000 in
theorem rm10 (l : Launch) (Z : State) (a0 : Array Value) (hw : ∀ d ∈ tables_1, d.before a0 Z = true) (ws : List Jvm.Cond) (a1 : Addr) (a2 : Addr) (h0 : Heap) (n0 : Nat) (Z0 : n0 ≤ h0.size) :
    MetFree l nm_10 (head1 (Jvm.Cond.code nm_10 jdk_31_method_11_code 2 (some (.object "java/lang/Object")) :: ws) rr0) (fun aa zU => aa = #[(.ref a1), (.ref a2)] ∧ Z.Warmed39 zU.vm ∧ zU.heap = h0) (fun _ _ _ _ _ => True) (fun _ zU zo zU' => ∃ zv zL, zo = .returned zv ∧ QP (some (.ref a1)) h0 n0 zv zU'.heap zL ∧ FrameEnd zU zo zU' zL rr0.cells rr0.slots) := by
  refine MetFree.of_bodySF (plainFor_of_name pn_java_util_Objects) hisR ?_
  intro p e s m args below meth c s₁ Bd hml0 hP hK
  obtain ⟨rfl, hZ, hh⟩ := hP
  have hx := Bd.exec
  have hby := Bd.bytes
  have hml : c.maxLocals = 2 := hml0
  have hown : s.vm.findClass "java/util/Objects" = some m.cls := findClass_of_methodNamed Bd.named
  have hnm := (name_of_methodNamed Bd.named Bd.method).1
  have X0 : Stand p l e rr0 s m #[(.ref a1), (.ref a2)] below meth c s₁ [] 0 0 := Stand.of_body Bd
  have e0 : s₁.heap = h0 := by rw [← hh, Bd.state]; rfl
  have N0 := Fr.nil n0
  have pre0 : ∀ t, Steps p.tables e below (s₁.setTop (mkF m 0 #[.val (.ref a1), .val (.ref a2)] [])) t → Steps p.tables e below (s₁.setTop (entryFrame m #[(.ref a1), (.ref a2)] 2)) t := fun t k => castTop (ef_10 m a1 a2) k
  obtain ⟨fsq, hr, hrun, hended, hW, hsame⟩ := X0.leave (v := some (.ref a1)) (fun h => by rw [Bd.returns] at h; cases h)
  refine ⟨_, _, pre0 _ ?_, hrun, hended, _, _, rfl, ?_, ⟨_, rfl⟩, hW, hsame.mono (by decide) (by decide)⟩
  · show Steps p.tables e below (s₁.setTop (mkF m 0 #[.val (.ref a1), .val (.ref a2)] [])) _
    refine XS.aloadN X0.here hx rfl (hb hby d10_0) rfl rfl ?_
    refine XS.ifnonnullYes X0.here hx rfl (pc0 := 1) (pc' := 13) rfl (hb hby d10_1) rfl (by decide) (by decide) ?_
    refine XS.aloadN X0.here hx rfl (hb hby d10_13) rfl rfl ?_
    show Steps p.tables e below (s₁.setTop (mkF m 14 #[.val (.ref a1), .val (.ref a2)] [(.ref a1)])) _
    exact retOut X0 hx Bd.returns rfl (Or.inr (Or.inr (Or.inr (Or.inr ⟨rfl, rfl, rfl⟩)))) (hb hby d10_14) hr
  · show QP (some (.ref a1)) h0 n0 _ s₁.heap _
    rw [e0]
    exact ⟨rfl, N0, rfl⟩
abbrev rr_2_2_28_29 : Room := { frames := 2, cells := 2, slots := 28, locals := 29 }
theorem d8_0 : decode prog_17_method_1_code 0 = .ok (.aload_n 0, 1) := by decide +kernel
theorem d8_1 : decode prog_17_method_1_code 1 = .ok (.invokespecial 1, 3) := by decide +kernel
theorem d8_4 : decode prog_17_method_1_code 4 = .ok (.aload_n 2, 1) := by decide +kernel
theorem d8_5 : decode prog_17_method_1_code 5 = .ok (.ldc 7, 2) := by decide +kernel
theorem pd_5 : parseMethodDescriptor "(Ljava/lang/Object;Ljava/lang/String;)Ljava/lang/Object;" = some ⟨[(.object "java/lang/Object"), (.object "java/lang/String")], some (.object "java/lang/Object")⟩ := by decide +kernel
theorem d8_7 : decode prog_17_method_1_code 7 = .ok (.invokestatic 9, 3) := by decide +kernel
theorem d8_10 : decode prog_17_method_1_code 10 = .ok (.pop, 1) := by decide +kernel
theorem d8_11 : decode prog_17_method_1_code 11 = .ok (.iload_n 1, 1) := by decide +kernel
theorem d8_12 : decode prog_17_method_1_code 12 = .ok (.iconst 1, 1) := by decide +kernel
theorem d8_13 : decode prog_17_method_1_code 13 = .ok (.if_icmp .ge 17, 3) := by decide +kernel
theorem d8_30 : decode prog_17_method_1_code 30 = .ok (.aload_n 2, 1) := by decide +kernel
theorem d8_31 : decode prog_17_method_1_code 31 = .ok (.getstatic 24, 3) := by decide +kernel
theorem pd_6 : parseMethodDescriptor "(Ljava/time/Duration;)I" = some ⟨[(.object "java/time/Duration")], some .int⟩ := by decide +kernel
theorem d8_34 : decode prog_17_method_1_code 34 = .ok (.invokevirtual 30, 3) := by decide +kernel
theorem d8_37 : decode prog_17_method_1_code 37 = .ok (.ifCond .gt 20, 3) := by decide +kernel
theorem d8_57 : decode prog_17_method_1_code 57 = .ok (.aload_n 2, 1) := by decide +kernel
theorem d8_58 : decode prog_17_method_1_code 58 = .ok (.getstatic 43, 3) := by decide +kernel
theorem d8_61 : decode prog_17_method_1_code 61 = .ok (.invokevirtual 30, 3) := by decide +kernel
theorem d8_64 : decode prog_17_method_1_code 64 = .ok (.ifCond .le 26, 3) := by decide +kernel
theorem d8_90 : decode prog_17_method_1_code 90 = .ok (.aload_n 0, 1) := by decide +kernel
theorem d8_91 : decode prog_17_method_1_code 91 = .ok (.iload_n 1, 1) := by decide +kernel
theorem d8_92 : decode prog_17_method_1_code 92 = .ok (.putfield 51, 3) := by decide +kernel
theorem d8_95 : decode prog_17_method_1_code 95 = .ok (.aload_n 0, 1) := by decide +kernel
theorem d8_96 : decode prog_17_method_1_code 96 = .ok (.aload_n 2, 1) := by decide +kernel
theorem d8_97 : decode prog_17_method_1_code 97 = .ok (.putfield 55, 3) := by decide +kernel
theorem d8_100 : decode prog_17_method_1_code 100 = .ok (.return_, 1) := by decide +kernel
theorem pn_com_example_steady_sluice_steadysluice_Rule : plainName "com/example/steady_sluice/steadysluice/Rule" = true := by first | (simp [plainName, overriddenIn]; done) | decide +kernel
theorem ef_8 (m : MethodId) (x0 : Addr) (x1 : Int32) (x2 : Addr) : entryFrame m #[(.ref x0), (.int x1), (.ref x2)] 3 = mkF m 0 #[.val (.ref x0), .val (.int x1), .val (.ref x2)] [] := by first | (simp [entryFrame, mkF, argsToLocals, Value.category]; done) | rfl
abbrev nm_8 : MethodName := ⟨"com/example/steady_sluice/steadysluice/Rule", "<init>", "(ILjava/time/Duration;)V"⟩
set_option maxRecDepth 65536 in
set_option maxHeartbeats 40000000 in
theorem rm8 (l : Launch) (Z : State) (a0 : Array Value) (hw : ∀ d ∈ tables_1, d.before a0 Z = true) (ws : List Jvm.Cond) (a1 : Addr) (cn : Int32) (a3 : Addr) (zd : Addr) (ld : Addr) (h0 : Heap) (n0 : Nat) (Z0 : n0 ≤ h0.size) (g0_a1 : n0 ≤ a1) (PA : RuAt Z h0 a1 (.int (0 : Int32)) .null) (PD : DuAt Z h0 a3 (.long (0 : Int64)) (.int (1 : Int32))) (hcn : ¬ (cn < (1 : Int32))) (SZ : Sta Z h0 "java/time/Duration" "ZERO" "Ljava/time/Duration;" (.ref zd)) (FZ : Fld Z h0 zd "java/time/Duration" "seconds" "J" (.long (0 : Int64))) (FZn : Fld Z h0 zd "java/time/Duration" "nanos" "I" (.int (0 : Int32))) (SL : Sta Z h0 "com/example/steady_sluice/steadysluice/Rule" "LONGEST_PERIOD" "Ljava/time/Duration;" (.ref ld)) (FL : Fld Z h0 ld "java/time/Duration" "seconds" "J" (.long (9223372036 : Int64))) :
    MetFree l nm_8 (head1 (Jvm.Cond.code nm_8 prog_17_method_1_code 3 none :: ws) rr_2_2_28_29) (fun aa zU => aa = #[(.ref a1), (.int cn), (.ref a3)] ∧ Z.Warmed39 zU.vm ∧ zU.heap = h0) (fun _ _ _ _ _ => True) (fun _ zU zo zU' => ∃ zv zL, zo = .returned zv ∧ QO (fun h => RuAt Z h a1 (.int cn) (.ref a3)) [a1] h0 n0 zv zU'.heap zL ∧ ReturnedEndW zU zo zU' zL rr_2_2_28_29.cells rr_2_2_28_29.slots) := by
  refine MetFree.of_bodySF (plainFor_of_name pn_com_example_steady_sluice_steadysluice_Rule) hisR ?_
  intro p e s m args below meth c s₁ Bd hml0 hP hK
  obtain ⟨rfl, hZ, hh⟩ := hP
  have hx := Bd.exec
  have hby := Bd.bytes
  have hml : c.maxLocals = 3 := hml0
  have hown : s.vm.findClass "com/example/steady_sluice/steadysluice/Rule" = some m.cls := findClass_of_methodNamed Bd.named
  have hnm := (name_of_methodNamed Bd.named Bd.method).1
  have X0 : Stand p l e rr_2_2_28_29 s m #[(.ref a1), (.int cn), (.ref a3)] below meth c s₁ [] 0 0 := Stand.of_body Bd
  have e0 : s₁.heap = h0 := by rw [← hh, Bd.state]; rfl
  have N0 := Fr.nil n0
  have pre0 : ∀ t, Steps p.tables e below (s₁.setTop (mkF m 0 #[.val (.ref a1), .val (.int cn), .val (.ref a3)] [])) t → Steps p.tables e below (s₁.setTop (entryFrame m #[(.ref a1), (.int cn), (.ref a3)] 3)) t := fun t k => castTop (ef_8 m a1 cn a3) k
  obtain ⟨Eob1, F0ob1, F1ob1⟩ := id PA
  obtain ⟨Eob2, F0ob2, F1ob2⟩ := id PD
  obtain ⟨_, _, ⟨T3, L3, k3, n3⟩, -, X3, ⟨Lc3, hQ3, l3, y3, z3⟩, st3⟩ := X0.specialBack hx (y := nm_9) rfl hown (mvT hZ (ow hw 52 rfl)) (mvT hZ (ow hw 53 rfl)) (mvT hZ (ow hw 56 rfl)) (by decide) (backOf (W := 0) (rm9 l Z a0 hw [] a1 h0 n0 Z0) hZ (ow hw 56 rfl) (ow hw 55 rfl) (by decide) (by decide)) (g := (mkF m 1 #[.val (.ref a1), .val (.int cn), .val (.ref a3)] [(.ref a1)])) rfl (by rw [hml]; rfl) (Steps.refl _) (a := a1) (argsL := []) (rest := []) (lenOf pd_0 rfl) rfl (by show 2 * 0 + _ ≤ _; exact Nat.le_of_eq rfl) (hb hby d8_1) (fun _ _ => ⟨rfl, e0, (by decide : 0 + 0 ≤ _), (by decide : 0 + 0 ≤ _)⟩)
  dsimp only [Pt.U, Pt.locs, Pt.cells, Pt.slots] at X3 l3 y3 z3 st3 hQ3
  subst l3 y3 z3
  obtain ⟨rfl, N3q, e3⟩ := hQ3
  have N3 := Fr.app N0 N3q
  have wS : ∀ a ∈ Bundle.stringAtoms, a.before a0 Z = true := fun a ha => by
    simp only [Bundle.stringAtoms, List.mem_cons, List.not_mem_nil, or_false] at ha
    rcases ha with rfl | rfl | rfl | rfl | rfl | rfl | rfl
    all_goals first | exact ow hw 59 rfl | exact ow hw 60 rfl | exact ow hw 61 rfl | exact ow hw 62 rfl | exact ow hw 63 rfl | exact ow hw 64 rfl | exact ow hw 65 rfl
  obtain ⟨sa, T4, h4, ks, X4, e4, E4, hS, hks, hZ, hown, st4⟩ := ldcS (s := s) (vm0 := s.vm) X3 hx hZ hown (ow hw 58 rfl) wS e3 ((State.WarmedH.refl s).since 0) (Nat.zero_le _) (g := (mkF m 5 #[.val (.ref a1), .val (.int cn), .val (.ref a3)] [(.ref a3)])) rfl (hb hby d8_5) (n := 24) (by decide) (by decide) (by decide) (by decide)
  obtain ⟨_, _, ⟨T5, L5, k5, n5⟩, -, X5, ⟨Lc5, hQ5, l5, y5, z5⟩, st5⟩ := Jvm.LawKit.callS X4 hx (y := nm_10) hown (mvT hZ (ow hw 66 rfl)) (mvT hZ (ow hw 67 rfl)) (mvT hZ (ow hw 68 rfl)) (mvT hZ (ow hw 69 rfl)) (by decide) (backOf (W := 0) (rm10 l Z a0 hw [] a3 sa h4 n0 (Nat.le_trans Z0 E4.1)) hZ (ow hw 69 rfl) (ow hw 68 rfl) (by decide) (by decide)) (g := (mkF m 7 #[.val (.ref a1), .val (.int cn), .val (.ref a3)] [(.ref sa), (.ref a3)])) rfl (by rw [hml]; rfl) (argsL := [(.ref a3), (.ref sa)]) (rest := []) (lenOf pd_5 rfl) rfl (by show 2 * 0 + _ ≤ _; exact Nat.le_of_eq rfl) (hb hby d8_7) (fun _ _ => ⟨rfl, e4, (by decide : 2 + 0 ≤ _), (by decide : 28 + 0 ≤ _)⟩)
  dsimp only [Pt.U, Pt.locs, Pt.cells, Pt.slots] at X5 l5 y5 z5 st5 hQ5
  subst l5 y5 z5
  obtain ⟨rfl, N5q, e5⟩ := hQ5
  have N5 := Fr.app N3 N5q
  have c7 := SZ.ext E4
  obtain ⟨T6, X6, e6, st6⟩ := getS2 X5 hx hZ hown (host := "") (Or.inl (ow hw 70 rfl)) Via.refl e5 c7 (g := (mkF m 31 #[.val (.ref a1), .val (.int cn), .val (.ref a3)] [(.ref a3)])) rfl (hb hby d8_31)
  have c8 := F0ob2.ext E4
  have c9 := F1ob2.ext E4
  have c10 := FZ.ext E4
  have c11 := FZn.ext E4
  have c13 := Eob2.ext E4
  obtain ⟨cq12, kq12, q12a, q12b, q12c⟩ := isOf hZ e6 c13
  obtain ⟨_, _, ⟨T12, L12, k12, n12⟩, -, X12, ⟨Lc12, hQ12, l12, y12, z12⟩, st12⟩ := X6.virtualBack hx (y := nm_11) (z := nm_11) hown (mvT hZ (ow hw 71 rfl)) (mvT hZ (ow hw 72 rfl)) (notFace_of_selects (args := #[]) (mvT hZ (ow hw 74 rfl))) (mvT hZ (ow hw 74 rfl)) (mvT hZ (ow hw 73 rfl)) (by decide) (backOf (W := 0) (rm11_z l Z a0 hw [] a3 zd h4 n0 (Nat.le_trans Z0 E4.1) c8 c9 c10 c11) hZ (ow hw 75 rfl) (ow hw 32 rfl) (by decide) (by decide)) q12a q12c (g := (mkF m 34 #[.val (.ref a1), .val (.int cn), .val (.ref a3)] [(.ref zd), (.ref a3)])) rfl (by rw [hml]; rfl) (Steps.refl _) (argsL := [(.ref zd)]) (rest := []) (lenOf pd_6 rfl) rfl (by show 2 * 0 + _ ≤ _; exact Nat.le_of_eq rfl) (hb hby d8_34) (fun _ _ => ⟨rfl, e6, (by decide : 2 + 0 ≤ _), (by decide : 28 + 0 ≤ _)⟩)
  dsimp only [Pt.U, Pt.locs, Pt.cells, Pt.slots] at X12 l12 y12 z12 st12 hQ12
  subst l12 y12 z12
  obtain ⟨rfl, N12q, e12⟩ := hQ12
  have N12 := Fr.app N5 N12q
  have c15 := SL.ext E4
  obtain ⟨T14, X14, e14, st14⟩ := getS2 X12 hx hZ hown (host := "") (Or.inl (ow hw 80 rfl)) Via.refl e12 c15 (g := (mkF m 58 #[.val (.ref a1), .val (.int cn), .val (.ref a3)] [(.ref a3)])) rfl (hb hby d8_58)
  have c16 := FL.ext E4
  obtain ⟨cq17, kq17, q17a, q17b, q17c⟩ := isOf hZ e14 c13
  obtain ⟨_, _, ⟨T17, L17, k17, n17⟩, -, X17, ⟨Lc17, hQ17, l17, y17, z17⟩, st17⟩ := X14.virtualBack hx (y := nm_11) (z := nm_11) hown (mvT hZ (ow hw 71 rfl)) (mvT hZ (ow hw 72 rfl)) (notFace_of_selects (args := #[]) (mvT hZ (ow hw 74 rfl))) (mvT hZ (ow hw 74 rfl)) (mvT hZ (ow hw 73 rfl)) (by decide) (backOf (W := 0) (rm11_b l Z a0 hw [] a3 ld h4 n0 (Nat.le_trans Z0 E4.1) c8 c16) hZ (ow hw 75 rfl) (ow hw 32 rfl) (by decide) (by decide)) q17a q17c (g := (mkF m 61 #[.val (.ref a1), .val (.int cn), .val (.ref a3)] [(.ref ld), (.ref a3)])) rfl (by rw [hml]; rfl) (Steps.refl _) (argsL := [(.ref ld)]) (rest := []) (lenOf pd_6 rfl) rfl (by show 2 * 0 + _ ≤ _; exact Nat.le_of_eq rfl) (hb hby d8_61) (fun _ _ => ⟨rfl, e14, (by decide : 2 + 0 ≤ _), (by decide : 28 + 0 ≤ _)⟩)
  dsimp only [Pt.U, Pt.locs, Pt.cells, Pt.slots] at X17 l17 y17 z17 st17 hQ17
  subst l17 y17 z17
  obtain ⟨rfl, N17q, e17⟩ := hQ17
  have N17 := Fr.app N12 N17q
  have c19 := F0ob1.ext E4
  have c20 := Eob1.ext E4
  obtain ⟨T18, h18, X18, e18, W18, st18⟩ := putF X17 hx hZ hown (host := "") (Or.inl (ow hw 82 rfl)) Via.refl e17 c19 c20 (Or.inr ⟨(ow hw 83 rfl), rfl, hnm⟩) (ow hw 28 rfl) (ty := .int) (by decide) rfl rfl (g := (mkF m 92 #[.val (.ref a1), .val (.int cn), .val (.ref a3)] [(.int cn), (.ref a1)])) rfl rfl (hb hby d8_92)
  have Fw18 := c19.same W18
  have N18 := Fr.snoc X18 N17 g0_a1
  have c22 := F1ob1.ext E4
  have c23 := c22.other W18 (Or.inr (slot_ne (Or.inr (ow hw 85 rfl)) (Or.inr (ow hw 83 rfl)) (by decide) (t := (.object "java/time/Duration")) (t' := .int) (by decide) (by decide)))
  have c24 := c20.wr W18
  obtain ⟨T21, h21, X21, e21, W21, st21⟩ := putF X18 hx hZ hown (host := "") (Or.inl (ow hw 84 rfl)) Via.refl e18 c23 c24 (Or.inr ⟨(ow hw 85 rfl), rfl, hnm⟩) (ow hw 28 rfl) (ty := (.object "java/time/Duration")) (by decide) rfl rfl (g := (mkF m 97 #[.val (.ref a1), .val (.int cn), .val (.ref a3)] [(.ref a3), (.ref a1)])) rfl rfl (hb hby d8_97)
  have Fw21 := c23.same W21
  have N21 := Fr.snoc X21 N18 g0_a1
  have kp25 : Keep h0 h21 [a1] := ((((Keep.refl h0 [a1]).ext E4).wr W18 (Or.inl (List.mem_of_getElem? (i := 0) rfl))).wr W21 (Or.inl (List.mem_of_getElem? (i := 0) rfl)))
  have c26 := c24.wr W21
  have c27 := Fw18.other W21 (Or.inr (slot_ne (Or.inr (ow hw 83 rfl)) (Or.inr (ow hw 85 rfl)) (by decide) (t := .int) (t' := (.object "java/time/Duration")) (by decide) (by decide)))
  obtain ⟨fsq, hr, hrun, hended, hRW⟩ := X21.leaveW hS (by rw [e21]; exact (Nat.le_trans (Nat.le_trans hks (Keep.of_wr W18).1) (Keep.of_wr W21).1)) (v := none) (fun _ => rfl)
  refine ⟨_, _, pre0 _ ?_, hrun, hended, _, _, rfl, ?_, hRW.1, hRW.2.1, hRW.2.2.1, hRW.2.2.2.mono (by decide) (by decide)⟩
  · show Steps p.tables e below (s₁.setTop (mkF m 0 #[.val (.ref a1), .val (.int cn), .val (.ref a3)] [])) _
    refine XS.aloadN X0.here hx rfl (hb hby d8_0) rfl rfl ?_
    refine st3.trans ?_
    refine XS.aloadN X3.here hx rfl (hb hby d8_4) rfl rfl ?_
    show Steps p.tables e below (T3.setTop (mkF m 5 #[.val (.ref a1), .val (.int cn), .val (.ref a3)] [(.ref a3)])) _
    refine st4 _ ?_
    refine st5 _ ?_
    refine XS.pop X5.here hx rfl (hb hby d8_10) rfl rfl ?_
    show Steps p.tables e below (T5.setTop (mkF m 11 #[.val (.ref a1), .val (.int cn), .val (.ref a3)] [])) _
    refine XS.iloadN X5.here hx rfl (hb hby d8_11) rfl ?_
    refine XS.iconst X5.here hx rfl (hb hby d8_12) ?_
    refine XS.icmpYes X5.here hx rfl (pc0 := 13) (pc' := 30) rfl (hb hby d8_13) rfl (flt (hcn : ¬ (cn < (1 : Int32)))).2.1 (by decide) (by decide) ?_
    show Steps p.tables e below (T5.setTop (mkF m 30 #[.val (.ref a1), .val (.int cn), .val (.ref a3)] [])) _
    refine XS.aloadN X5.here hx rfl (hb hby d8_30) rfl rfl ?_
    refine st6 _ ?_
    refine st12.trans ?_
    show Steps p.tables e below (T12.setTop (mkF m 37 #[.val (.ref a1), .val (.int cn), .val (.ref a3)] [(.int (1 : Int32))])) _
    refine XS.ifYes X12.here hx rfl (pc0 := 37) (pc' := 57) rfl (hb hby d8_37) rfl ((if0 _ _).trans (tlt ((by decide) : (0 : Int32) < (1 : Int32))).2.2.1) (by decide) (by decide) ?_
    refine XS.aloadN X12.here hx rfl (hb hby d8_57) rfl rfl ?_
    refine st14 _ ?_
    show Steps p.tables e below (T14.setTop (mkF m 61 #[.val (.ref a1), .val (.int cn), .val (.ref a3)] [(.ref ld), (.ref a3)])) _
    refine st17.trans ?_
    refine XS.ifYes X17.here hx rfl (pc0 := 64) (pc' := 90) rfl (hb hby d8_64) rfl ((if0 _ _).trans (flt ((by decide) : ¬ ((0 : Int32) < (-1 : Int32)))).2.2.2) (by decide) (by decide) ?_
    refine XS.aloadN X17.here hx rfl (hb hby d8_90) rfl rfl ?_
    show Steps p.tables e below (T17.setTop (mkF m 91 #[.val (.ref a1), .val (.int cn), .val (.ref a3)] [(.ref a1)])) _
    refine XS.iloadN X17.here hx rfl (hb hby d8_91) rfl ?_
    refine st18 _ ?_
    refine XS.aloadN X18.here hx rfl (hb hby d8_95) rfl rfl ?_
    show Steps p.tables e below (T18.setTop (mkF m 96 #[.val (.ref a1), .val (.int cn), .val (.ref a3)] [(.ref a1)])) _
    refine XS.aloadN X18.here hx rfl (hb hby d8_96) rfl rfl ?_
    refine st21 _ ?_
    show Steps p.tables e below (T21.setTop (mkF m 100 #[.val (.ref a1), .val (.int cn), .val (.ref a3)] [])) _
    exact X21.returnOut hx Bd.returns (hb hby d8_100) hr
  · show QO (fun h => RuAt Z h a1 (.int cn) (.ref a3)) [a1] h0 n0 _ T21.heap _
    rw [e21]
    exact ⟨rfl, N21, kp25, ⟨c26, c27, Fw21⟩⟩
theorem d17_0 : decode jdk_29_method_65_code 0 = .ok (.iload_n 0, 1) := by decide +kernel
theorem d17_1 : decode jdk_29_method_65_code 1 = .ok (.iload_n 1, 1) := by decide +kernel
theorem d17_2 : decode jdk_29_method_65_code 2 = .ok (.if_icmp .lt 7, 3) := by decide +kernel
theorem d17_9 : decode jdk_29_method_65_code 9 = .ok (.iload_n 1, 1) := by decide +kernel
theorem d17_10 : decode jdk_29_method_65_code 10 = .ok (.ireturn, 1) := by decide +kernel
theorem ef_17 (m : MethodId) (x0 : Int32) (x1 : Int32) : entryFrame m #[(.int x0), (.int x1)] 2 = mkF m 0 #[.val (.int x0), .val (.int x1)] [] := by first | (simp [entryFrame, mkF, argsToLocals, Value.category]; done) | rfl
abbrev nm_17 : MethodName := ⟨"java/lang/Math", "max", "(II)I"⟩
set_option maxRecDepth 65536 in
set_option maxHeartbeats 40000000 in
theorem rm17_t (l : Launch) (Z : State) (a0 : Array Value) (hw : ∀ d ∈ tables_1, d.before a0 Z = true) (ws : List Jvm.Cond) (x : Int32) (y : Int32) (h0 : Heap) (n0 : Nat) (Z0 : n0 ≤ h0.size) (hc2 : x < y) :
    MetFree l nm_17 (head1 (Jvm.Cond.code nm_17 jdk_29_method_65_code 2 (some .int) :: ws) rr0) (fun aa zU => aa = #[(.int x), (.int y)] ∧ Z.Warmed39 zU.vm ∧ zU.heap = h0) (fun _ _ _ _ _ => True) (fun _ zU zo zU' => ∃ zv zL, zo = .returned zv ∧ QP (some (.int y)) h0 n0 zv zU'.heap zL ∧ FrameEnd zU zo zU' zL rr0.cells rr0.slots) := by
  refine MetFree.of_bodySF (Jvm.Free.JP.mathPlain rfl (by decide +kernel)) hisR ?_
  intro p e s m args below meth c s₁ Bd hml0 hP hK
  obtain ⟨rfl, hZ, hh⟩ := hP
  have hx := Bd.exec
  have hby := Bd.bytes
  have hml : c.maxLocals = 2 := hml0
  have hown : s.vm.findClass "java/lang/Math" = some m.cls := findClass_of_methodNamed Bd.named
  have hnm := (name_of_methodNamed Bd.named Bd.method).1
  have X0 : Stand p l e rr0 s m #[(.int x), (.int y)] below meth c s₁ [] 0 0 := Stand.of_body Bd
  have e0 : s₁.heap = h0 := by rw [← hh, Bd.state]; rfl
  have N0 := Fr.nil n0
  have pre0 : ∀ t, Steps p.tables e below (s₁.setTop (mkF m 0 #[.val (.int x), .val (.int y)] [])) t → Steps p.tables e below (s₁.setTop (entryFrame m #[(.int x), (.int y)] 2)) t := fun t k => castTop (ef_17 m x y) k
  obtain ⟨fsq, hr, hrun, hended, hW, hsame⟩ := X0.leave (v := some (.int y)) (fun h => by rw [Bd.returns] at h; cases h)
  refine ⟨_, _, pre0 _ ?_, hrun, hended, _, _, rfl, ?_, ⟨_, rfl⟩, hW, hsame.mono (by decide) (by decide)⟩
  · show Steps p.tables e below (s₁.setTop (mkF m 0 #[.val (.int x), .val (.int y)] [])) _
    refine XS.iloadN X0.here hx rfl (hb hby d17_0) rfl ?_
    refine XS.iloadN X0.here hx rfl (hb hby d17_1) rfl ?_
    refine XS.icmpYes X0.here hx rfl (pc0 := 2) (pc' := 9) rfl (hb hby d17_2) rfl (tlt hc2).1 (by decide) (by decide) ?_
    show Steps p.tables e below (s₁.setTop (mkF m 9 #[.val (.int x), .val (.int y)] [])) _
    refine XS.iloadN X0.here hx rfl (hb hby d17_9) rfl ?_
    show Steps p.tables e below (s₁.setTop (mkF m 10 #[.val (.int x), .val (.int y)] [(.int y)])) _
    exact retI X0 hx Bd.returns (hb hby d17_10) hr
  · show QP (some (.int y)) h0 n0 _ s₁.heap _
    rw [e0]
    exact ⟨rfl, N0, rfl⟩
theorem d17_5 : decode jdk_29_method_65_code 5 = .ok (.iload_n 0, 1) := by decide +kernel
theorem d17_6 : decode jdk_29_method_65_code 6 = .ok (.goto 4, 3) := by decide +kernel
set_option maxRecDepth 65536 in
set_option maxHeartbeats 40000000 in
theorem rm17_f (l : Launch) (Z : State) (a0 : Array Value) (hw : ∀ d ∈ tables_1, d.before a0 Z = true) (ws : List Jvm.Cond) (x : Int32) (y : Int32) (h0 : Heap) (n0 : Nat) (Z0 : n0 ≤ h0.size) (hc2 : ¬ (x < y)) :
    MetFree l nm_17 (head1 (Jvm.Cond.code nm_17 jdk_29_method_65_code 2 (some .int) :: ws) rr0) (fun aa zU => aa = #[(.int x), (.int y)] ∧ Z.Warmed39 zU.vm ∧ zU.heap = h0) (fun _ _ _ _ _ => True) (fun _ zU zo zU' => ∃ zv zL, zo = .returned zv ∧ QP (some (.int x)) h0 n0 zv zU'.heap zL ∧ FrameEnd zU zo zU' zL rr0.cells rr0.slots) := by
  refine MetFree.of_bodySF (Jvm.Free.JP.mathPlain rfl (by decide +kernel)) hisR ?_
  intro p e s m args below meth c s₁ Bd hml0 hP hK
  obtain ⟨rfl, hZ, hh⟩ := hP
  have hx := Bd.exec
  have hby := Bd.bytes
  have hml : c.maxLocals = 2 := hml0
  have hown : s.vm.findClass "java/lang/Math" = some m.cls := findClass_of_methodNamed Bd.named
  have hnm := (name_of_methodNamed Bd.named Bd.method).1
  have X0 : Stand p l e rr0 s m #[(.int x), (.int y)] below meth c s₁ [] 0 0 := Stand.of_body Bd
  have e0 : s₁.heap = h0 := by rw [← hh, Bd.state]; rfl
  have N0 := Fr.nil n0
  have pre0 : ∀ t, Steps p.tables e below (s₁.setTop (mkF m 0 #[.val (.int x), .val (.int y)] [])) t → Steps p.tables e below (s₁.setTop (entryFrame m #[(.int x), (.int y)] 2)) t := fun t k => castTop (ef_17 m x y) k
  obtain ⟨fsq, hr, hrun, hended, hW, hsame⟩ := X0.leave (v := some (.int x)) (fun h => by rw [Bd.returns] at h; cases h)
  refine ⟨_, _, pre0 _ ?_, hrun, hended, _, _, rfl, ?_, ⟨_, rfl⟩, hW, hsame.mono (by decide) (by decide)⟩
  · show Steps p.tables e below (s₁.setTop (mkF m 0 #[.val (.int x), .val (.int y)] [])) _
    refine XS.iloadN X0.here hx rfl (hb hby d17_0) rfl ?_
    refine XS.iloadN X0.here hx rfl (hb hby d17_1) rfl ?_
    refine XS.icmpNo X0.here hx rfl (hb hby d17_2) rfl (flt hc2).1 ?_
    show Steps p.tables e below (s₁.setTop (mkF m 5 #[.val (.int x), .val (.int y)] [])) _
    refine XS.iloadN X0.here hx rfl (hb hby d17_5) rfl ?_
    refine XS.goto X0.here hx rfl (pc0 := 6) (pc' := 10) rfl (hb hby d17_6) (by decide) (by decide) ?_
    show Steps p.tables e below (s₁.setTop (mkF m 10 #[.val (.int x), .val (.int y)] [(.int x)])) _
    exact retI X0 hx Bd.returns (hb hby d17_10) hr
  · show QP (some (.int x)) h0 n0 _ s₁.heap _
    rw [e0]
    exact ⟨rfl, N0, rfl⟩
abbrev rr_1_1_10_14 : Room := { frames := 1, cells := 1, slots := 10, locals := 14 }
theorem d16_0 : decode jdk_38_method_6_code 0 = .ok (.aload_n 0, 1) := by decide +kernel
theorem d16_1 : decode jdk_38_method_6_code 1 = .ok (.getfield 9, 3) := by decide +kernel
theorem d16_4 : decode jdk_38_method_6_code 4 = .ok (.arraylength, 1) := by decide +kernel
theorem d16_5 : decode jdk_38_method_6_code 5 = .ok (.istore_n 2, 1) := by decide +kernel
theorem d16_6 : decode jdk_38_method_6_code 6 = .ok (.iload_n 2, 1) := by decide +kernel
theorem d16_7 : decode jdk_38_method_6_code 7 = .ok (.ifCond .gt 13, 3) := by decide +kernel
theorem d16_10 : decode jdk_38_method_6_code 10 = .ok (.aload_n 0, 1) := by decide +kernel
theorem d16_11 : decode jdk_38_method_6_code 11 = .ok (.getfield 9, 3) := by decide +kernel
theorem d16_14 : decode jdk_38_method_6_code 14 = .ok (.getstatic 39, 3) := by decide +kernel
theorem d16_17 : decode jdk_38_method_6_code 17 = .ok (.if_acmp .eq 28, 3) := by decide +kernel
theorem d16_45 : decode jdk_38_method_6_code 45 = .ok (.aload_n 0, 1) := by decide +kernel
theorem d16_46 : decode jdk_38_method_6_code 46 = .ok (.bipush 10, 2) := by decide +kernel
theorem d16_48 : decode jdk_38_method_6_code 48 = .ok (.iload_n 1, 1) := by decide +kernel
theorem pd_12 : parseMethodDescriptor "(II)I" = some ⟨[.int, .int], some .int⟩ := by decide +kernel
theorem d16_49 : decode jdk_38_method_6_code 49 = .ok (.invokestatic 79, 3) := by decide +kernel
theorem d16_52 : decode jdk_38_method_6_code 52 = .ok (.anewarray 7, 3) := by decide +kernel
theorem d16_55 : decode jdk_38_method_6_code 55 = .ok (.dup_x1, 1) := by decide +kernel
theorem d16_56 : decode jdk_38_method_6_code 56 = .ok (.putfield 9, 3) := by decide +kernel
theorem d16_59 : decode jdk_38_method_6_code 59 = .ok (.areturn, 1) := by decide +kernel
theorem ef_16 (m : MethodId) (x0 : Addr) (x1 : Int32) : entryFrame m #[(.ref x0), (.int x1)] 4 = mkF m 0 #[.val (.ref x0), .val (.int x1), .unset, .unset] [] := by first | (simp [entryFrame, mkF, argsToLocals, Value.category]; done) | rfl
abbrev nm_16 : MethodName := ⟨"java/util/ArrayList", "grow", "(I)[Ljava/lang/Object;"⟩
set_option maxRecDepth 65536 in
set_option maxHeartbeats 40000000 in
theorem rm16 (l : Launch) (Z : State) (a0 : Array Value) (hw : ∀ d ∈ tables_1, d.before a0 Z = true) (ws : List Jvm.Cond) (a1 : Addr) (de : Addr) (kd : ClassId) (mc : Int32) (h0 : Heap) (n0 : Nat) (Z0 : n0 ≤ h0.size) (g0_a1 : n0 ≤ a1) (PA : AlAt Z h0 a1 (.int mc) (.ref de) (.int (0 : Int32))) (VD : Arv Z h0 de kd (.object "java/lang/Object") (0 : Int32) [] .null) (SD : Sta Z h0 "java/util/ArrayList" "DEFAULTCAPACITY_EMPTY_ELEMENTDATA" "[Ljava/lang/Object;" (.ref de)) :
    MetFree l nm_16 (head1 (Jvm.Cond.code nm_16 jdk_38_method_6_code 4 (some (.array (.object "java/lang/Object"))) :: ws) rr_1_1_10_14) (fun aa zU => aa = #[(.ref a1), (.int (1 : Int32))] ∧ Z.Warmed39 zU.vm ∧ zU.heap = h0) (fun _ _ _ _ _ => True) (fun _ zU zo zU' => ∃ zv zL, zo = .returned zv ∧ QE (fun b h => AlAt Z h a1 (.int mc) (.ref b) (.int (0 : Int32)) ∧ ∃ k, Ovr Z k "java/lang/Object" ∧ Arv Z h b k (.object "java/lang/Object") (10 : Int32) [.null, .null, .null, .null, .null, .null, .null, .null, .null, .null] .null) [a1] h0 n0 zv zU'.heap zL ∧ FrameEnd zU zo zU' zL rr_1_1_10_14.cells rr_1_1_10_14.slots) := by
  refine MetFree.of_bodySF (plainFor_of_name pn_java_util_ArrayList) hisR ?_
  intro p e s m args below meth c s₁ Bd hml0 hP hK
  obtain ⟨rfl, hZ, hh⟩ := hP
  have hx := Bd.exec
  have hby := Bd.bytes
  have hml : c.maxLocals = 4 := hml0
  have hown : s.vm.findClass "java/util/ArrayList" = some m.cls := findClass_of_methodNamed Bd.named
  have hnm := (name_of_methodNamed Bd.named Bd.method).1
  have X0 : Stand p l e rr_1_1_10_14 s m #[(.ref a1), (.int (1 : Int32))] below meth c s₁ [] 0 0 := Stand.of_body Bd
  have e0 : s₁.heap = h0 := by rw [← hh, Bd.state]; rfl
  have N0 := Fr.nil n0
  have pre0 : ∀ t, Steps p.tables e below (s₁.setTop (mkF m 0 #[.val (.ref a1), .val (.int (1 : Int32)), .unset, .unset] [])) t → Steps p.tables e below (s₁.setTop (entryFrame m #[(.ref a1), (.int (1 : Int32))] 4)) t := fun t k => castTop (ef_16 m a1 (1 : Int32)) k
  obtain ⟨Eob1, F0ob1, F1ob1, F2ob1⟩ := id PA
  have ne_a1_de : a1 ≠ de := Exa.neArv Eob1 VD (ow hw 2 rfl)
  obtain ⟨T2, X2, e2, st2⟩ := getF X0 hx hZ hown (host := "") (Or.inl (ow hw 25 rfl)) Via.refl e0 F1ob1 (g := (mkF m 1 #[.val (.ref a1), .val (.int (1 : Int32)), .unset, .unset] [(.ref a1)])) rfl rfl (hb hby d16_1)
  obtain ⟨clz3, Arz3, qz3, Sz3, Nz3, Hz3, Gz3⟩ := id VD
  obtain ⟨T4, X4, e4, st4⟩ := getF X2 hx hZ hown (host := "") (Or.inl (ow hw 25 rfl)) Via.refl e2 F1ob1 (g := (mkF m 11 #[.val (.ref a1), .val (.int (1 : Int32)), .val (.int (0 : Int32)), .unset] [(.ref a1)])) rfl rfl (hb hby d16_11)
  obtain ⟨T5, X5, e5, st5⟩ := getS2 X4 hx hZ hown (host := "") (Or.inl (ow hw 24 rfl)) Via.refl e4 SD (g := (mkF m 14 #[.val (.ref a1), .val (.int (1 : Int32)), .val (.int (0 : Int32)), .unset] [(.ref de)])) rfl (hb hby d16_14)
  obtain ⟨_, _, ⟨T6, L6, k6, n6⟩, -, X6, ⟨Lc6, hQ6, l6, y6, z6⟩, st6⟩ := Jvm.LawKit.callS X5 hx (y := nm_17) hown (mvT hZ (ow hw 110 rfl)) (mvT hZ (ow hw 111 rfl)) (mvT hZ (ow hw 112 rfl)) (mvT hZ (ow hw 113 rfl)) (by decide) (backOf (W := 1) (rm17_f l Z a0 hw [] (10 : Int32) (1 : Int32) h0 n0 Z0 (by decide)) hZ (ow hw 113 rfl) (ow hw 112 rfl) (by decide) (by decide)) (g := (mkF m 49 #[.val (.ref a1), .val (.int (1 : Int32)), .val (.int (0 : Int32)), .unset] [(.int (1 : Int32)), (.int (10 : Int32)), (.ref a1)])) rfl (by rw [hml]; rfl) (argsL := [(.int (10 : Int32)), (.int (1 : Int32))]) (rest := [(.ref a1)]) (lenOf pd_12 rfl) rfl (by show 2 * 0 + _ ≤ _; exact Nat.le_of_eq rfl) (hb hby d16_49) (fun _ _ => ⟨rfl, e5, (by decide : 0 + 0 ≤ _), (by decide : 0 + 0 ≤ _)⟩)
  dsimp only [Pt.U, Pt.locs, Pt.cells, Pt.slots] at X6 l6 y6 z6 st6 hQ6
  subst l6 y6 z6
  obtain ⟨rfl, N6q, e6⟩ := hQ6
  have N6 := Fr.app N0 N6q
  obtain ⟨T7, h7, k7, X7, e7, E7, A7, O7, st7⟩ := newR X6 hx hZ hown (ow hw 114 rfl) (ow hw 115 rfl) e6 (g := (mkF m 52 #[.val (.ref a1), .val (.int (1 : Int32)), .val (.int (0 : Int32)), .unset] [(.int (10 : Int32)), (.ref a1)])) rfl (hb hby d16_52) rfl (by decide) (cap := 10) (by decide) (by decide) (by decide) (by decide)
  obtain ⟨b7, g_b7⟩ : ∃ z, z = h0.size := ⟨_, rfl⟩
  rw [← g_b7] at A7 st7
  have g0_b7 : n0 ≤ b7 := Nat.le_trans Z0 (Nat.le_of_eq g_b7.symm)
  have sz_b7 : h0.size ≤ b7 := Nat.le_trans (Nat.le_refl _) (Nat.le_of_eq g_b7.symm)
  have ne_a1_b7 : a1 ≠ b7 := Nat.ne_of_lt (Nat.lt_of_lt_of_le Eob1.lt (Nat.le_of_eq g_b7.symm))
  have ne_de_b7 : de ≠ b7 := Nat.ne_of_lt (Nat.lt_of_lt_of_le VD.lt (Nat.le_of_eq g_b7.symm))
  have V_b7 : Arv Z h7 b7 k7 (.object "java/lang/Object") (10 : Int32) [.null, .null, .null, .null, .null, .null, .null, .null, .null, .null] .null := (Arv.new A7 (by decide)).pad (pad_rep [] .null 10)
  have c9 := F1ob1.ext E7
  have c10 := Eob1.ext E7
  obtain ⟨T8, h8, X8, e8, W8, st8⟩ := putF X7 hx hZ hown (host := "") (Or.inl (ow hw 25 rfl)) Via.refl e7 c9 c10 (Or.inl (ow hw 26 rfl)) (ow hw 2 rfl) (ty := (.array (.object "java/lang/Object"))) (by decide) rfl rfl (g := (mkF m 56 #[.val (.ref a1), .val (.int (1 : Int32)), .val (.int (0 : Int32)), .unset] [(.ref b7), (.ref a1), (.ref b7)])) rfl rfl (hb hby d16_56)
  have Fw8 := c9.same W8
  have N8 := Fr.snoc X8 N6 g0_a1
  have kp11 : Keep h0 h8 [a1] := (((Keep.refl h0 [a1]).ext E7).wr W8 (Or.inl (List.mem_of_getElem? (i := 0) rfl)))
  have c12 := c10.wr W8
  have c13 := F0ob1.ext E7
  have c14 := c13.other W8 (Or.inr (slot_ne (Or.inl (ow hw 23 rfl)) (Or.inl (ow hw 26 rfl)) (by decide) (t := .int) (t' := (.array (.object "java/lang/Object"))) (by decide) (by decide)))
  have c15 := F2ob1.ext E7
  have c16 := c15.other W8 (Or.inr (slot_ne (Or.inl (ow hw 94 rfl)) (Or.inl (ow hw 26 rfl)) (by decide) (t := .int) (t' := (.array (.object "java/lang/Object"))) (by decide) (by decide)))
  have c17 := V_b7.other W8 (Ne.symm ne_a1_b7)
  obtain ⟨fsq, hr, hrun, hended, hW, hsame⟩ := X8.leave (v := some (.ref b7)) (fun h => by rw [Bd.returns] at h; cases h)
  refine ⟨_, _, pre0 _ ?_, hrun, hended, _, _, rfl, ?_, ⟨_, rfl⟩, hW, hsame.mono (by decide) (by decide)⟩
  · show Steps p.tables e below (s₁.setTop (mkF m 0 #[.val (.ref a1), .val (.int (1 : Int32)), .unset, .unset] [])) _
    refine XS.aloadN X0.here hx rfl (hb hby d16_0) rfl rfl ?_
    refine st2 _ ?_
    show Steps p.tables e below (T2.setTop (mkF m 4 #[.val (.ref a1), .val (.int (1 : Int32)), .unset, .unset] [(.ref de)])) _
    refine X2.arraylength hx (by rw [e2]; exact Arz3.1) (State.isArrayOf_alike hZ.alike Arz3.2.1) (g := (mkF m 4 #[.val (.ref a1), .val (.int (1 : Int32)), .unset, .unset] [(.ref de)])) rfl rfl (hb hby d16_4) _ ?_
    rw [len_of Sz3 Nz3]
    refine XS.istoreN X2.here hx rfl (hb hby d16_5) rfl (l' := #[.val (.ref a1), .val (.int (1 : Int32)), .val (.int (0 : Int32)), .unset]) rfl ?_
    refine XS.iloadN X2.here hx rfl (hb hby d16_6) rfl ?_
    show Steps p.tables e below (T2.setTop (mkF m 7 #[.val (.ref a1), .val (.int (1 : Int32)), .val (.int (0 : Int32)), .unset] [(.int (0 : Int32))])) _
    refine XS.ifNo X2.here hx rfl (hb hby d16_7) rfl ((if0 _ _).trans (flt ((by decide) : ¬ ((0 : Int32) < (0 : Int32)))).2.2.1) ?_
    refine XS.aloadN X2.here hx rfl (hb hby d16_10) rfl rfl ?_
    refine st4 _ ?_
    show Steps p.tables e below (T4.setTop (mkF m 14 #[.val (.ref a1), .val (.int (1 : Int32)), .val (.int (0 : Int32)), .unset] [(.ref de)])) _
    refine st5 _ ?_
    refine Jvm.RoadKit.acmp (g := (mkF m 17 #[.val (.ref a1), .val (.int (1 : Int32)), .val (.int (0 : Int32)), .unset] [(.ref de), (.ref de)])) X5 hx rfl rfl rfl (pc0 := 17) (pc' := 45) (same := true) rfl (hb hby d16_17) rfl (decide_eq_true rfl) (by decide) (by decide) ?_
    refine XS.aloadN X5.here hx rfl (hb hby d16_45) rfl rfl ?_
    show Steps p.tables e below (T5.setTop (mkF m 46 #[.val (.ref a1), .val (.int (1 : Int32)), .val (.int (0 : Int32)), .unset] [(.ref a1)])) _
    refine XS.bipush X5.here hx rfl (hb hby d16_46) ?_
    refine XS.iloadN X5.here hx rfl (hb hby d16_48) rfl ?_
    refine st6 _ ?_
    show Steps p.tables e below (T6.setTop (mkF m 52 #[.val (.ref a1), .val (.int (1 : Int32)), .val (.int (0 : Int32)), .unset] [(.int (10 : Int32)), (.ref a1)])) _
    refine st7 _ ?_
    refine XS.dupX1 X7.here hx rfl (hb hby d16_55) rfl rfl rfl ?_
    refine st8 _ ?_
    show Steps p.tables e below (T8.setTop (mkF m 59 #[.val (.ref a1), .val (.int (1 : Int32)), .val (.int (0 : Int32)), .unset] [(.ref b7)])) _
    exact retOut X8 hx Bd.returns rfl (Or.inr (Or.inr (Or.inr (Or.inr ⟨rfl, rfl, rfl⟩)))) (hb hby d16_59) hr
  · show QE (fun b h => AlAt Z h a1 (.int mc) (.ref b) (.int (0 : Int32)) ∧ ∃ k, Ovr Z k "java/lang/Object" ∧ Arv Z h b k (.object "java/lang/Object") (10 : Int32) [.null, .null, .null, .null, .null, .null, .null, .null, .null, .null] .null) [a1] h0 n0 _ T8.heap _
    rw [e8]
    exact ⟨_, rfl, N8, kp11, g0_b7, sz_b7, ⟨c12, c14, Fw8, c16⟩, _, O7, c17⟩
abbrev rr_2_1_10_29 : Room := { frames := 2, cells := 1, slots := 10, locals := 29 }
theorem d15_0 : decode jdk_38_method_7_code 0 = .ok (.aload_n 0, 1) := by decide +kernel
theorem d15_1 : decode jdk_38_method_7_code 1 = .ok (.aload_n 0, 1) := by decide +kernel
theorem d15_2 : decode jdk_38_method_7_code 2 = .ok (.getfield 48, 3) := by decide +kernel
theorem d15_5 : decode jdk_38_method_7_code 5 = .ok (.iconst 1, 1) := by decide +kernel
theorem d15_6 : decode jdk_38_method_7_code 6 = .ok (.iadd, 1) := by decide +kernel
theorem pd_11 : parseMethodDescriptor "(I)[Ljava/lang/Object;" = some ⟨[.int], some (.array (.object "java/lang/Object"))⟩ := by decide +kernel
theorem d15_7 : decode jdk_38_method_7_code 7 = .ok (.invokevirtual 69, 3) := by decide +kernel
theorem d15_10 : decode jdk_38_method_7_code 10 = .ok (.areturn, 1) := by decide +kernel
theorem ef_15 (m : MethodId) (x0 : Addr) : entryFrame m #[(.ref x0)] 1 = mkF m 0 #[.val (.ref x0)] [] := by first | (simp [entryFrame, mkF, argsToLocals, Value.category]; done) | rfl
abbrev nm_15 : MethodName := ⟨"java/util/ArrayList", "grow", "()[Ljava/lang/Object;"⟩
set_option maxRecDepth 65536 in
set_option maxHeartbeats 40000000 in
theorem rm15 (l : Launch) (Z : State) (a0 : Array Value) (hw : ∀ d ∈ tables_1, d.before a0 Z = true) (ws : List Jvm.Cond) (a1 : Addr) (de : Addr) (kd : ClassId) (mc : Int32) (h0 : Heap) (n0 : Nat) (Z0 : n0 ≤ h0.size) (g0_a1 : n0 ≤ a1) (PA : AlAt Z h0 a1 (.int mc) (.ref de) (.int (0 : Int32))) (VD : Arv Z h0 de kd (.object "java/lang/Object") (0 : Int32) [] .null) (SD : Sta Z h0 "java/util/ArrayList" "DEFAULTCAPACITY_EMPTY_ELEMENTDATA" "[Ljava/lang/Object;" (.ref de)) :
    MetFree l nm_15 (head1 (Jvm.Cond.code nm_15 jdk_38_method_7_code 1 (some (.array (.object "java/lang/Object"))) :: ws) rr_2_1_10_29) (fun aa zU => aa = #[(.ref a1)] ∧ Z.Warmed39 zU.vm ∧ zU.heap = h0) (fun _ _ _ _ _ => True) (fun _ zU zo zU' => ∃ zv zL, zo = .returned zv ∧ QE (fun b h => AlAt Z h a1 (.int mc) (.ref b) (.int (0 : Int32)) ∧ ∃ k, Ovr Z k "java/lang/Object" ∧ Arv Z h b k (.object "java/lang/Object") (10 : Int32) [.null, .null, .null, .null, .null, .null, .null, .null, .null, .null] .null) [a1] h0 n0 zv zU'.heap zL ∧ FrameEnd zU zo zU' zL rr_2_1_10_29.cells rr_2_1_10_29.slots) := by
  refine MetFree.of_bodySF (plainFor_of_name pn_java_util_ArrayList) hisR ?_
  intro p e s m args below meth c s₁ Bd hml0 hP hK
  obtain ⟨rfl, hZ, hh⟩ := hP
  have hx := Bd.exec
  have hby := Bd.bytes
  have hml : c.maxLocals = 1 := hml0
  have hown : s.vm.findClass "java/util/ArrayList" = some m.cls := findClass_of_methodNamed Bd.named
  have hnm := (name_of_methodNamed Bd.named Bd.method).1
  have X0 : Stand p l e rr_2_1_10_29 s m #[(.ref a1)] below meth c s₁ [] 0 0 := Stand.of_body Bd
  have e0 : s₁.heap = h0 := by rw [← hh, Bd.state]; rfl
  have N0 := Fr.nil n0
  have pre0 : ∀ t, Steps p.tables e below (s₁.setTop (mkF m 0 #[.val (.ref a1)] [])) t → Steps p.tables e below (s₁.setTop (entryFrame m #[(.ref a1)] 1)) t := fun t k => castTop (ef_15 m a1) k
  obtain ⟨Eob1, F0ob1, F1ob1, F2ob1⟩ := id PA
  have ne_a1_de : a1 ≠ de := Exa.neArv Eob1 VD (ow hw 2 rfl)
  obtain ⟨T2, X2, e2, st2⟩ := getF X0 hx hZ hown (host := "") (Or.inl (ow hw 93 rfl)) Via.refl e0 F2ob1 (g := (mkF m 2 #[.val (.ref a1)] [(.ref a1), (.ref a1)])) rfl rfl (hb hby d15_2)
  obtain ⟨cq3, q3, q3'⟩ := Eob1.cell
  obtain ⟨_, _, ⟨T3, L3, k3, n3⟩, -, X3, ⟨Lc3, hQ3, l3, y3, z3⟩, st3⟩ := X2.privateBack hx (y := nm_16) hown (mvT hZ (ow hw 105 rfl)) (mvT hZ (ow hw 106 rfl)) (mvT hZ (ow hw 108 rfl)) (Cond.privateMethod_at (mvP hZ (ow hw 107 rfl) (args := #[]))) (mvT hZ (ow hw 109 rfl)) (by decide) (backOf (W := 0) (rm16 l Z a0 hw [] a1 de kd mc h0 n0 Z0 g0_a1 ⟨Eob1, F0ob1, F1ob1, F2ob1⟩ VD SD) hZ (ow hw 109 rfl) (ow hw 3 rfl) (by decide) (by decide)) (g := (mkF m 7 #[.val (.ref a1)] [(.int (1 : Int32)), (.ref a1)])) rfl (by rw [hml]; rfl) (Steps.refl _) (a := a1) (by rw [e2]; exact q3) q3' (argsL := [(.int (1 : Int32))]) (rest := []) (lenOf pd_11 rfl) rfl (by show 2 * 0 + _ ≤ _; exact Nat.le_of_eq rfl) (hb hby d15_7) (fun _ _ => ⟨rfl, e2, (by decide : 0 + 1 ≤ _), (by decide : 0 + 10 ≤ _)⟩)
  dsimp only [Pt.U, Pt.locs, Pt.cells, Pt.slots] at X3 l3 y3 z3 st3 hQ3
  subst l3 y3 z3
  obtain ⟨bb3, rfl, N3q, K3, g0_bb3, szq3, P03, kk3, OO3, VV3⟩ := hQ3
  have N3 := Fr.app N0 N3q
  have ne_a1_bb3 : a1 ≠ bb3 := Nat.ne_of_lt (Nat.lt_of_lt_of_le Eob1.lt szq3)
  have ne_de_bb3 : de ≠ bb3 := Nat.ne_of_lt (Nat.lt_of_lt_of_le VD.lt szq3)
  have sz_bb3 : h0.size ≤ bb3 := Nat.le_trans (Nat.le_refl _) szq3
  obtain ⟨Eob4, F0ob4, F1ob4, F2ob4⟩ := id P03
  have kp5 : Keep h0 T3.heap [a1] := ((Keep.refl h0 [a1]).trans K3 (allS (Or.inl (List.mem_of_getElem? (i := 0) rfl)) all0))
  obtain ⟨fsq, hr, hrun, hended, hW, hsame⟩ := X3.leave (v := some (.ref bb3)) (fun h => by rw [Bd.returns] at h; cases h)
  refine ⟨_, _, pre0 _ ?_, hrun, hended, _, _, rfl, ?_, ⟨_, rfl⟩, hW, hsame.mono (by decide) (by decide)⟩
  · show Steps p.tables e below (s₁.setTop (mkF m 0 #[.val (.ref a1)] [])) _
    refine XS.aloadN X0.here hx rfl (hb hby d15_0) rfl rfl ?_
    refine XS.aloadN X0.here hx rfl (hb hby d15_1) rfl rfl ?_
    refine st2 _ ?_
    show Steps p.tables e below (T2.setTop (mkF m 5 #[.val (.ref a1)] [(.int (0 : Int32)), (.ref a1)])) _
    refine XS.iconst X2.here hx rfl (hb hby d15_5) ?_
    refine XS.iadd X2.here hx rfl (hb hby d15_6) rfl ?_
    show Steps p.tables e below (T2.setTop (mkF m 7 #[.val (.ref a1)] [(.int ((0 : Int32) + (1 : Int32))), (.ref a1)])) _
    rw [own_01]
    refine st3.trans ?_
    show Steps p.tables e below (T3.setTop (mkF m 10 #[.val (.ref a1)] [(.ref bb3)])) _
    exact retOut X3 hx Bd.returns rfl (Or.inr (Or.inr (Or.inr (Or.inr ⟨rfl, rfl, rfl⟩)))) (hb hby d15_10) hr
  · show QE (fun b h => AlAt Z h a1 (.int mc) (.ref b) (.int (0 : Int32)) ∧ ∃ k, Ovr Z k "java/lang/Object" ∧ Arv Z h b k (.object "java/lang/Object") (10 : Int32) [.null, .null, .null, .null, .null, .null, .null, .null, .null, .null] .null) [a1] h0 n0 _ T3.heap _
    exact ⟨_, rfl, N3, kp5, g0_bb3, sz_bb3, ⟨Eob4, F0ob4, F1ob4, F2ob4⟩, _, OO3, VV3⟩
abbrev rr_3_1_10_41 : Room := { frames := 3, cells := 1, slots := 10, locals := 41 }
theorem d14_0 : decode jdk_38_method_24_code 0 = .ok (.iload_n 3, 1) := by decide +kernel
theorem d14_1 : decode jdk_38_method_24_code 1 = .ok (.aload_n 2, 1) := by decide +kernel
theorem d14_2 : decode jdk_38_method_24_code 2 = .ok (.arraylength, 1) := by decide +kernel
theorem d14_3 : decode jdk_38_method_24_code 3 = .ok (.if_icmp .ne 8, 3) := by decide +kernel
theorem d14_6 : decode jdk_38_method_24_code 6 = .ok (.aload_n 0, 1) := by decide +kernel
theorem pd_10 : parseMethodDescriptor "()[Ljava/lang/Object;" = some ⟨[], some (.array (.object "java/lang/Object"))⟩ := by decide +kernel
theorem d14_7 : decode jdk_38_method_24_code 7 = .ok (.invokevirtual 129, 3) := by decide +kernel
theorem d14_10 : decode jdk_38_method_24_code 10 = .ok (.astore_n 2, 1) := by decide +kernel
theorem d14_11 : decode jdk_38_method_24_code 11 = .ok (.aload_n 2, 1) := by decide +kernel
theorem d14_12 : decode jdk_38_method_24_code 12 = .ok (.iload_n 3, 1) := by decide +kernel
theorem d14_13 : decode jdk_38_method_24_code 13 = .ok (.aload_n 1, 1) := by decide +kernel
theorem d14_14 : decode jdk_38_method_24_code 14 = .ok (.aastore, 1) := by decide +kernel
theorem d14_15 : decode jdk_38_method_24_code 15 = .ok (.aload_n 0, 1) := by decide +kernel
theorem d14_16 : decode jdk_38_method_24_code 16 = .ok (.iload_n 3, 1) := by decide +kernel
theorem d14_17 : decode jdk_38_method_24_code 17 = .ok (.iconst 1, 1) := by decide +kernel
theorem d14_18 : decode jdk_38_method_24_code 18 = .ok (.iadd, 1) := by decide +kernel
theorem d14_19 : decode jdk_38_method_24_code 19 = .ok (.putfield 48, 3) := by decide +kernel
theorem d14_22 : decode jdk_38_method_24_code 22 = .ok (.return_, 1) := by decide +kernel
theorem ef_14 (m : MethodId) (x0 : Addr) (x1 : Addr) (x2 : Addr) (x3 : Int32) : entryFrame m #[(.ref x0), (.ref x1), (.ref x2), (.int x3)] 4 = mkF m 0 #[.val (.ref x0), .val (.ref x1), .val (.ref x2), .val (.int x3)] [] := by first | (simp [entryFrame, mkF, argsToLocals, Value.category]; done) | rfl
abbrev nm_14 : MethodName := ⟨"java/util/ArrayList", "add", "(Ljava/lang/Object;[Ljava/lang/Object;I)V"⟩
set_option maxRecDepth 65536 in
set_option maxHeartbeats 40000000 in
theorem rm14 (l : Launch) (Z : State) (a0 : Array Value) (hw : ∀ d ∈ tables_1, d.before a0 Z = true) (ws : List Jvm.Cond) (a1 : Addr) (a2 : Addr) (de : Addr) (kd : ClassId) (mc : Int32) (h0 : Heap) (n0 : Nat) (Z0 : n0 ≤ h0.size) (g0_a1 : n0 ≤ a1) (PA : AlAt Z h0 a1 (.int mc) (.ref de) (.int (0 : Int32))) (VD : Arv Z h0 de kd (.object "java/lang/Object") (0 : Int32) [] .null) (SD : Sta Z h0 "java/util/ArrayList" "DEFAULTCAPACITY_EMPTY_ELEMENTDATA" "[Ljava/lang/Object;" (.ref de)) (EA2 : Exa Z h0 a2 "com/example/steady_sluice/steadysluice/Rule") :
    MetFree l nm_14 (head1 (Jvm.Cond.code nm_14 jdk_38_method_24_code 4 none :: ws) rr_3_1_10_41) (fun aa zU => aa = #[(.ref a1), (.ref a2), (.ref de), (.int (0 : Int32))] ∧ Z.Warmed39 zU.vm ∧ zU.heap = h0) (fun _ _ _ _ _ => True) (fun _ zU zo zU' => ∃ zv zL, zo = .returned zv ∧ QO (fun h => ∃ b k, n0 ≤ b ∧ h0.size ≤ b ∧ AlAt Z h a1 (.int mc) (.ref b) (.int (1 : Int32)) ∧ Arv Z h b k (.object "java/lang/Object") (10 : Int32) [(.ref a2), .null, .null, .null, .null, .null, .null, .null, .null, .null] .null) [a1] h0 n0 zv zU'.heap zL ∧ FrameEnd zU zo zU' zL rr_3_1_10_41.cells rr_3_1_10_41.slots) := by
  refine MetFree.of_bodySF (plainFor_of_name pn_java_util_ArrayList) hisR ?_
  intro p e s m args below meth c s₁ Bd hml0 hP hK
  obtain ⟨rfl, hZ, hh⟩ := hP
  have hx := Bd.exec
  have hby := Bd.bytes
  have hml : c.maxLocals = 4 := hml0
  have hown : s.vm.findClass "java/util/ArrayList" = some m.cls := findClass_of_methodNamed Bd.named
  have hnm := (name_of_methodNamed Bd.named Bd.method).1
  have X0 : Stand p l e rr_3_1_10_41 s m #[(.ref a1), (.ref a2), (.ref de), (.int (0 : Int32))] below meth c s₁ [] 0 0 := Stand.of_body Bd
  have e0 : s₁.heap = h0 := by rw [← hh, Bd.state]; rfl
  have N0 := Fr.nil n0
  have pre0 : ∀ t, Steps p.tables e below (s₁.setTop (mkF m 0 #[.val (.ref a1), .val (.ref a2), .val (.ref de), .val (.int (0 : Int32))] [])) t → Steps p.tables e below (s₁.setTop (entryFrame m #[(.ref a1), (.ref a2), (.ref de), (.int (0 : Int32))] 4)) t := fun t k => castTop (ef_14 m a1 a2 de (0 : Int32)) k
  obtain ⟨Eob1, F0ob1, F1ob1, F2ob1⟩ := id PA
  have ne_a1_de : a1 ≠ de := Exa.neArv Eob1 VD (ow hw 2 rfl)
  obtain ⟨clz2, Arz2, qz2, Sz2, Nz2, Hz2, Gz2⟩ := id VD
  obtain ⟨cq3, q3, q3'⟩ := Eob1.cell
  obtain ⟨_, _, ⟨T3, L3, k3, n3⟩, -, X3, ⟨Lc3, hQ3, l3, y3, z3⟩, st3⟩ := X0.privateBack hx (y := nm_15) hown (mvT hZ (ow hw 100 rfl)) (mvT hZ (ow hw 101 rfl)) (mvT hZ (ow hw 103 rfl)) (Cond.privateMethod_at (mvP hZ (ow hw 102 rfl) (args := #[]))) (mvT hZ (ow hw 104 rfl)) (by decide) (backOf (W := 0) (rm15 l Z a0 hw [] a1 de kd mc h0 n0 Z0 g0_a1 ⟨Eob1, F0ob1, F1ob1, F2ob1⟩ VD SD) hZ (ow hw 104 rfl) (ow hw 3 rfl) (by decide) (by decide)) (g := (mkF m 7 #[.val (.ref a1), .val (.ref a2), .val (.ref de), .val (.int (0 : Int32))] [(.ref a1)])) rfl (by rw [hml]; rfl) (Steps.refl _) (a := a1) (by rw [e0]; exact q3) q3' (argsL := []) (rest := []) (lenOf pd_10 rfl) rfl (by show 2 * 0 + _ ≤ _; exact Nat.le_of_eq rfl) (hb hby d14_7) (fun _ _ => ⟨rfl, e0, (by decide : 0 + 1 ≤ _), (by decide : 0 + 10 ≤ _)⟩)
  dsimp only [Pt.U, Pt.locs, Pt.cells, Pt.slots] at X3 l3 y3 z3 st3 hQ3
  subst l3 y3 z3
  obtain ⟨bb3, rfl, N3q, K3, g0_bb3, szq3, P03, kk3, OO3, VV3⟩ := hQ3
  have N3 := Fr.app N0 N3q
  have ne_a1_bb3 : a1 ≠ bb3 := Nat.ne_of_lt (Nat.lt_of_lt_of_le Eob1.lt szq3)
  have ne_de_bb3 : de ≠ bb3 := Nat.ne_of_lt (Nat.lt_of_lt_of_le VD.lt szq3)
  have ne_a2_bb3 : a2 ≠ bb3 := Nat.ne_of_lt (Nat.lt_of_lt_of_le EA2.lt szq3)
  have sz_bb3 : h0.size ≤ bb3 := Nat.le_trans (Nat.le_refl _) szq3
  obtain ⟨Eob4, F0ob4, F1ob4, F2ob4⟩ := id P03
  obtain ⟨clz5, Arz5, qz5, Sz5, Nz5, Hz5, Gz5⟩ := id VV3
  have hin6 : ¬ ((0 : Int32) < 0 ∨ clz5.slots.size ≤ ((0 : Int32)).toNatClampNeg) := inb_of Sz5 ⟨by decide, by decide⟩
  have c7 := EA2.keep K3
  obtain ⟨T6, h6, X6, e6, W6, st6⟩ := stR X3 hx hZ rfl Arz5 (j := (0 : Int32)) hin6 rfl (Sto.ofV Arz5 qz5 OO3 (Ins.of_exa c7 (ow hw 116 rfl))) (g := (mkF m 14 #[.val (.ref a1), .val (.ref a2), .val (.ref bb3), .val (.int (0 : Int32))] [(.ref a2), (.int (0 : Int32)), (.ref bb3)])) rfl rfl (hb hby d14_14)
  have V6 : Arv Z h6 bb3 kk3 (.object "java/lang/Object") (10 : Int32) [(.ref a2), .null, .null, .null, .null, .null, .null, .null, .null, .null] .null := Arv.set Arz5 qz5 Sz5 Nz5 Hz5 Gz5 rfl W6 0 rfl (Nat.le_of_ble_eq_true rfl)
  have N6 := Fr.snoc X6 N3 g0_bb3
  have c9 := F2ob4.other W6 (Or.inl ne_a1_bb3)
  have c10 := Eob4.wr W6
  obtain ⟨T8, h8, X8, e8, W8, st8⟩ := putF X6 hx hZ hown (host := "") (Or.inl (ow hw 93 rfl)) Via.refl e6 c9 c10 (Or.inl (ow hw 94 rfl)) (ow hw 2 rfl) (ty := .int) (by decide) rfl rfl (g := (mkF m 19 #[.val (.ref a1), .val (.ref a2), .val (.ref bb3), .val (.int (0 : Int32))] [(.int (1 : Int32)), (.ref a1)])) rfl rfl (hb hby d14_19)
  have Fw8 := c9.same W8
  have N8 := Fr.snoc X8 N6 g0_a1
  have kp11 : Keep h0 h8 [a1] := ((((Keep.refl h0 [a1]).trans K3 (allS (Or.inl (List.mem_of_getElem? (i := 0) rfl)) all0)).wr W6 (Or.inr sz_bb3)).wr W8 (Or.inl (List.mem_of_getElem? (i := 0) rfl)))
  have c12 := c10.wr W8
  have c13 := F0ob4.other W6 (Or.inl ne_a1_bb3)
  have c14 := c13.other W8 (Or.inr (slot_ne (Or.inl (ow hw 23 rfl)) (Or.inl (ow hw 94 rfl)) (by decide) (t := .int) (t' := .int) (by decide) (by decide)))
  have c15 := F1ob4.other W6 (Or.inl ne_a1_bb3)
  have c16 := c15.other W8 (Or.inr (slot_ne (Or.inl (ow hw 26 rfl)) (Or.inl (ow hw 94 rfl)) (by decide) (t := (.array (.object "java/lang/Object"))) (t' := .int) (by decide) (by decide)))
  have c17 := V6.other W8 (Ne.symm ne_a1_bb3)
  obtain ⟨fsq, hr, hrun, hended, hW, hsame⟩ := X8.leave (v := none) (fun _ => rfl)
  refine ⟨_, _, pre0 _ ?_, hrun, hended, _, _, rfl, ?_, ⟨_, rfl⟩, hW, hsame.mono (by decide) (by decide)⟩
  · show Steps p.tables e below (s₁.setTop (mkF m 0 #[.val (.ref a1), .val (.ref a2), .val (.ref de), .val (.int (0 : Int32))] [])) _
    refine XS.iloadN X0.here hx rfl (hb hby d14_0) rfl ?_
    refine XS.aloadN X0.here hx rfl (hb hby d14_1) rfl rfl ?_
    show Steps p.tables e below (s₁.setTop (mkF m 2 #[.val (.ref a1), .val (.ref a2), .val (.ref de), .val (.int (0 : Int32))] [(.ref de), (.int (0 : Int32))])) _
    refine X0.arraylength hx (by rw [e0]; exact Arz2.1) (State.isArrayOf_alike hZ.alike Arz2.2.1) (g := (mkF m 2 #[.val (.ref a1), .val (.ref a2), .val (.ref de), .val (.int (0 : Int32))] [(.ref de), (.int (0 : Int32))])) rfl rfl (hb hby d14_2) _ ?_
    rw [len_of Sz2 Nz2]
    refine XS.icmpNo X0.here hx rfl (hb hby d14_3) rfl (teq (rfl : (0 : Int32) = (0 : Int32))).2 ?_
    refine XS.aloadN X0.here hx rfl (hb hby d14_6) rfl rfl ?_
    show Steps p.tables e below (s₁.setTop (mkF m 7 #[.val (.ref a1), .val (.ref a2), .val (.ref de), .val (.int (0 : Int32))] [(.ref a1)])) _
    refine st3.trans ?_
    refine XS.astoreN X3.here hx rfl (hb hby d14_10) rfl rfl (l' := #[.val (.ref a1), .val (.ref a2), .val (.ref bb3), .val (.int (0 : Int32))]) rfl ?_
    refine XS.aloadN X3.here hx rfl (hb hby d14_11) rfl rfl ?_
    show Steps p.tables e below (T3.setTop (mkF m 12 #[.val (.ref a1), .val (.ref a2), .val (.ref bb3), .val (.int (0 : Int32))] [(.ref bb3)])) _
    refine XS.iloadN X3.here hx rfl (hb hby d14_12) rfl ?_
    refine XS.aloadN X3.here hx rfl (hb hby d14_13) rfl rfl ?_
    refine st6 _ ?_
    show Steps p.tables e below (T6.setTop (mkF m 15 #[.val (.ref a1), .val (.ref a2), .val (.ref bb3), .val (.int (0 : Int32))] [])) _
    refine XS.aloadN X6.here hx rfl (hb hby d14_15) rfl rfl ?_
    refine XS.iloadN X6.here hx rfl (hb hby d14_16) rfl ?_
    refine XS.iconst X6.here hx rfl (hb hby d14_17) ?_
    show Steps p.tables e below (T6.setTop (mkF m 18 #[.val (.ref a1), .val (.ref a2), .val (.ref bb3), .val (.int (0 : Int32))] [(.int (1 : Int32)), (.int (0 : Int32)), (.ref a1)])) _
    refine XS.iadd X6.here hx rfl (hb hby d14_18) rfl ?_
    show Steps p.tables e below (T6.setTop (mkF m 19 #[.val (.ref a1), .val (.ref a2), .val (.ref bb3), .val (.int (0 : Int32))] [(.int ((0 : Int32) + (1 : Int32))), (.ref a1)])) _
    rw [own_01]
    refine st8 _ ?_
    show Steps p.tables e below (T8.setTop (mkF m 22 #[.val (.ref a1), .val (.ref a2), .val (.ref bb3), .val (.int (0 : Int32))] [])) _
    exact X8.returnOut hx Bd.returns (hb hby d14_22) hr
  · show QO (fun h => ∃ b k, n0 ≤ b ∧ h0.size ≤ b ∧ AlAt Z h a1 (.int mc) (.ref b) (.int (1 : Int32)) ∧ Arv Z h b k (.object "java/lang/Object") (10 : Int32) [(.ref a2), .null, .null, .null, .null, .null, .null, .null, .null, .null] .null) [a1] h0 n0 _ T8.heap _
    rw [e8]
    exact ⟨rfl, N8, kp11, bb3, _, g0_bb3, sz_bb3, ⟨c12, c14, c16, Fw8⟩, c17⟩
abbrev rr_4_1_10_56 : Room := { frames := 4, cells := 1, slots := 10, locals := 56 }
theorem d13_0 : decode jdk_38_method_25_code 0 = .ok (.aload_n 0, 1) := by decide +kernel
theorem d13_1 : decode jdk_38_method_25_code 1 = .ok (.dup, 1) := by decide +kernel
theorem d13_2 : decode jdk_38_method_25_code 2 = .ok (.getfield 63, 3) := by decide +kernel
theorem d13_5 : decode jdk_38_method_25_code 5 = .ok (.iconst 1, 1) := by decide +kernel
theorem d13_6 : decode jdk_38_method_25_code 6 = .ok (.iadd, 1) := by decide +kernel
theorem d13_7 : decode jdk_38_method_25_code 7 = .ok (.putfield 63, 3) := by decide +kernel
theorem d13_10 : decode jdk_38_method_25_code 10 = .ok (.aload_n 0, 1) := by decide +kernel
theorem d13_11 : decode jdk_38_method_25_code 11 = .ok (.aload_n 1, 1) := by decide +kernel
theorem d13_12 : decode jdk_38_method_25_code 12 = .ok (.aload_n 0, 1) := by decide +kernel
theorem d13_13 : decode jdk_38_method_25_code 13 = .ok (.getfield 9, 3) := by decide +kernel
theorem d13_16 : decode jdk_38_method_25_code 16 = .ok (.aload_n 0, 1) := by decide +kernel
theorem d13_17 : decode jdk_38_method_25_code 17 = .ok (.getfield 48, 3) := by decide +kernel
theorem pd_9 : parseMethodDescriptor "(Ljava/lang/Object;[Ljava/lang/Object;I)V" = some ⟨[(.object "java/lang/Object"), (.array (.object "java/lang/Object")), .int], none⟩ := by decide +kernel
theorem d13_20 : decode jdk_38_method_25_code 20 = .ok (.invokevirtual 131, 3) := by decide +kernel
theorem d13_23 : decode jdk_38_method_25_code 23 = .ok (.iconst 1, 1) := by decide +kernel
theorem d13_24 : decode jdk_38_method_25_code 24 = .ok (.ireturn, 1) := by decide +kernel
theorem ef_13 (m : MethodId) (x0 : Addr) (x1 : Addr) : entryFrame m #[(.ref x0), (.ref x1)] 2 = mkF m 0 #[.val (.ref x0), .val (.ref x1)] [] := by first | (simp [entryFrame, mkF, argsToLocals, Value.category]; done) | rfl
abbrev nm_13 : MethodName := ⟨"java/util/ArrayList", "add", "(Ljava/lang/Object;)Z"⟩
set_option maxRecDepth 65536 in
set_option maxHeartbeats 40000000 in
theorem rm13 (l : Launch) (Z : State) (a0 : Array Value) (hw : ∀ d ∈ tables_1, d.before a0 Z = true) (ws : List Jvm.Cond) (a1 : Addr) (a2 : Addr) (de : Addr) (kd : ClassId) (h0 : Heap) (n0 : Nat) (Z0 : n0 ≤ h0.size) (g0_a1 : n0 ≤ a1) (PA : AlAt Z h0 a1 (.int (0 : Int32)) (.ref de) (.int (0 : Int32))) (VD : Arv Z h0 de kd (.object "java/lang/Object") (0 : Int32) [] .null) (SD : Sta Z h0 "java/util/ArrayList" "DEFAULTCAPACITY_EMPTY_ELEMENTDATA" "[Ljava/lang/Object;" (.ref de)) (EA2 : Exa Z h0 a2 "com/example/steady_sluice/steadysluice/Rule") :
    MetFree l nm_13 (head1 (Jvm.Cond.code nm_13 jdk_38_method_25_code 2 (some .boolean) :: ws) rr_4_1_10_56) (fun aa zU => aa = #[(.ref a1), (.ref a2)] ∧ Z.Warmed39 zU.vm ∧ zU.heap = h0) (fun _ _ _ _ _ => True) (fun _ zU zo zU' => ∃ zv zL, zo = .returned zv ∧ QI1 (fun h => ∃ b k, n0 ≤ b ∧ h0.size ≤ b ∧ AlAt Z h a1 (.int ((0 : Int32) + (1 : Int32))) (.ref b) (.int (1 : Int32)) ∧ Arv Z h b k (.object "java/lang/Object") (10 : Int32) [(.ref a2), .null, .null, .null, .null, .null, .null, .null, .null, .null] .null) [a1] h0 n0 zv zU'.heap zL ∧ FrameEnd zU zo zU' zL rr_4_1_10_56.cells rr_4_1_10_56.slots) := by
  refine MetFree.of_bodySF (plainFor_of_name pn_java_util_ArrayList) hisR ?_
  intro p e s m args below meth c s₁ Bd hml0 hP hK
  obtain ⟨rfl, hZ, hh⟩ := hP
  have hx := Bd.exec
  have hby := Bd.bytes
  have hml : c.maxLocals = 2 := hml0
  have hown : s.vm.findClass "java/util/ArrayList" = some m.cls := findClass_of_methodNamed Bd.named
  have hnm := (name_of_methodNamed Bd.named Bd.method).1
  have X0 : Stand p l e rr_4_1_10_56 s m #[(.ref a1), (.ref a2)] below meth c s₁ [] 0 0 := Stand.of_body Bd
  have e0 : s₁.heap = h0 := by rw [← hh, Bd.state]; rfl
  have N0 := Fr.nil n0
  have pre0 : ∀ t, Steps p.tables e below (s₁.setTop (mkF m 0 #[.val (.ref a1), .val (.ref a2)] [])) t → Steps p.tables e below (s₁.setTop (entryFrame m #[(.ref a1), (.ref a2)] 2)) t := fun t k => castTop (ef_13 m a1 a2) k
  obtain ⟨Eob1, F0ob1, F1ob1, F2ob1⟩ := id PA
  have ne_a1_de : a1 ≠ de := Exa.neArv Eob1 VD (ow hw 2 rfl)
  obtain ⟨T2, X2, e2, st2⟩ := getF X0 hx hZ hown (host := "") (Or.inl (ow hw 91 rfl)) (Via.of (ow hw 92 rfl)) e0 F0ob1 (g := (mkF m 2 #[.val (.ref a1), .val (.ref a2)] [(.ref a1), (.ref a1)])) rfl rfl (hb hby d13_2)
  obtain ⟨T3, h3, X3, e3, W3, st3⟩ := putF X2 hx hZ hown (host := "") (Or.inl (ow hw 91 rfl)) (Via.of (ow hw 92 rfl)) e2 F0ob1 Eob1 (Or.inl (ow hw 23 rfl)) (ow hw 2 rfl) (ty := .int) (by decide) rfl rfl (g := (mkF m 7 #[.val (.ref a1), .val (.ref a2)] [(.int ((0 : Int32) + (1 : Int32))), (.ref a1)])) rfl rfl (hb hby d13_7)
  have Fw3 := F0ob1.same W3
  have N3 := Fr.snoc X3 N0 g0_a1
  have c5 := F1ob1.other W3 (Or.inr (slot_ne (Or.inl (ow hw 26 rfl)) (Or.inl (ow hw 23 rfl)) (by decide) (t := (.array (.object "java/lang/Object"))) (t' := .int) (by decide) (by decide)))
  obtain ⟨T4, X4, e4, st4⟩ := getF X3 hx hZ hown (host := "") (Or.inl (ow hw 25 rfl)) Via.refl e3 c5 (g := (mkF m 13 #[.val (.ref a1), .val (.ref a2)] [(.ref a1), (.ref a2), (.ref a1)])) rfl rfl (hb hby d13_13)
  have c7 := F2ob1.other W3 (Or.inr (slot_ne (Or.inl (ow hw 94 rfl)) (Or.inl (ow hw 23 rfl)) (by decide) (t := .int) (t' := .int) (by decide) (by decide)))
  obtain ⟨T6, X6, e6, st6⟩ := getF X4 hx hZ hown (host := "") (Or.inl (ow hw 93 rfl)) Via.refl e4 c7 (g := (mkF m 17 #[.val (.ref a1), .val (.ref a2)] [(.ref a1), (.ref de), (.ref a2), (.ref a1)])) rfl rfl (hb hby d13_17)
  have c8 := Eob1.wr W3
  have c9 := VD.other W3 (Ne.symm ne_a1_de)
  have c10 := SD.wr W3
  have c11 := EA2.wr W3
  obtain ⟨cq12, q12, q12'⟩ := c8.cell
  obtain ⟨_, _, ⟨T12, L12, k12, n12⟩, -, X12, ⟨Lc12, hQ12, l12, y12, z12⟩, st12⟩ := X6.privateBack hx (y := nm_14) hown (mvT hZ (ow hw 95 rfl)) (mvT hZ (ow hw 96 rfl)) (mvT hZ (ow hw 98 rfl)) (Cond.privateMethod_at (mvP hZ (ow hw 97 rfl) (args := #[]))) (mvT hZ (ow hw 99 rfl)) (by decide) (backOf (W := 0) (rm14 l Z a0 hw [] a1 a2 de kd ((0 : Int32) + (1 : Int32)) h3 n0 (Nat.le_trans Z0 (Keep.of_wr W3).1) g0_a1 ⟨c8, Fw3, c5, c7⟩ c9 c10 c11) hZ (ow hw 99 rfl) (ow hw 3 rfl) (by decide) (by decide)) (g := (mkF m 20 #[.val (.ref a1), .val (.ref a2)] [(.int (0 : Int32)), (.ref de), (.ref a2), (.ref a1)])) rfl (by rw [hml]; rfl) (Steps.refl _) (a := a1) (by rw [e6]; exact q12) q12' (argsL := [(.ref a2), (.ref de), (.int (0 : Int32))]) (rest := []) (lenOf pd_9 rfl) rfl (by show 2 * 0 + _ ≤ _; exact Nat.le_of_eq rfl) (hb hby d13_20) (fun _ _ => ⟨rfl, e6, (by decide : 0 + 1 ≤ _), (by decide : 0 + 10 ≤ _)⟩)
  dsimp only [Pt.U, Pt.locs, Pt.cells, Pt.slots] at X12 l12 y12 z12 st12 hQ12
  subst l12 y12 z12
  obtain ⟨rfl, N12q, K12, bb12, kk12, g0_bb12, szq12, P012, VV12⟩ := hQ12
  have N12 := Fr.app N3 N12q
  have sz_bb12 : h0.size ≤ bb12 := Nat.le_trans (Nat.le_trans (Nat.le_refl _) (Keep.of_wr W3).1) szq12
  have kp13 : Keep h0 T12.heap [a1] := (((Keep.refl h0 [a1]).wr W3 (Or.inl (List.mem_of_getElem? (i := 0) rfl))).trans K12 (allS (Or.inl (List.mem_of_getElem? (i := 0) rfl)) all0))
  obtain ⟨fsq, hr, hrun, hended, hW, hsame⟩ := X12.leave (v := some (.int (1 : Int32))) (fun h => by rw [Bd.returns] at h; cases h)
  refine ⟨_, _, pre0 _ ?_, hrun, hended, _, _, rfl, ?_, ⟨_, rfl⟩, hW, hsame.mono (by decide) (by decide)⟩
  · show Steps p.tables e below (s₁.setTop (mkF m 0 #[.val (.ref a1), .val (.ref a2)] [])) _
    refine XS.aloadN X0.here hx rfl (hb hby d13_0) rfl rfl ?_
    refine XS.dup X0.here hx rfl (hb hby d13_1) rfl rfl ?_
    refine st2 _ ?_
    show Steps p.tables e below (T2.setTop (mkF m 5 #[.val (.ref a1), .val (.ref a2)] [(.int (0 : Int32)), (.ref a1)])) _
    refine XS.iconst X2.here hx rfl (hb hby d13_5) ?_
    refine XS.iadd X2.here hx rfl (hb hby d13_6) rfl ?_
    refine st3 _ ?_
    show Steps p.tables e below (T3.setTop (mkF m 10 #[.val (.ref a1), .val (.ref a2)] [])) _
    refine XS.aloadN X3.here hx rfl (hb hby d13_10) rfl rfl ?_
    refine XS.aloadN X3.here hx rfl (hb hby d13_11) rfl rfl ?_
    refine XS.aloadN X3.here hx rfl (hb hby d13_12) rfl rfl ?_
    show Steps p.tables e below (T3.setTop (mkF m 13 #[.val (.ref a1), .val (.ref a2)] [(.ref a1), (.ref a2), (.ref a1)])) _
    refine st4 _ ?_
    refine XS.aloadN X4.here hx rfl (hb hby d13_16) rfl rfl ?_
    refine st6 _ ?_
    show Steps p.tables e below (T6.setTop (mkF m 20 #[.val (.ref a1), .val (.ref a2)] [(.int (0 : Int32)), (.ref de), (.ref a2), (.ref a1)])) _
    refine st12.trans ?_
    refine XS.iconst X12.here hx rfl (hb hby d13_23) ?_
    show Steps p.tables e below (T12.setTop (mkF m 24 #[.val (.ref a1), .val (.ref a2)] [(.int (1 : Int32))])) _
    exact retN X12 hx (t := .boolean) Bd.returns (by simp) (hb hby d13_24) hr
  · show QI1 (fun h => ∃ b k, n0 ≤ b ∧ h0.size ≤ b ∧ AlAt Z h a1 (.int ((0 : Int32) + (1 : Int32))) (.ref b) (.int (1 : Int32)) ∧ Arv Z h b k (.object "java/lang/Object") (10 : Int32) [(.ref a2), .null, .null, .null, .null, .null, .null, .null, .null, .null] .null) [a1] h0 n0 _ T12.heap _
    exact ⟨rfl, N12, kp13, bb12, _, g0_bb12, sz_bb12, P012, VV12⟩
theorem d19_0 : decode jdk_38_method_8_code 0 = .ok (.aload_n 0, 1) := by decide +kernel
theorem d19_1 : decode jdk_38_method_8_code 1 = .ok (.getfield 48, 3) := by decide +kernel
theorem d19_4 : decode jdk_38_method_8_code 4 = .ok (.ireturn, 1) := by decide +kernel
theorem ef_19 (m : MethodId) (x0 : Addr) : entryFrame m #[(.ref x0)] 1 = mkF m 0 #[.val (.ref x0)] [] := by first | (simp [entryFrame, mkF, argsToLocals, Value.category]; done) | rfl
abbrev nm_19 : MethodName := ⟨"java/util/ArrayList", "size", "()I"⟩
set_option maxRecDepth 65536 in
set_option maxHeartbeats 40000000 in
theorem rm19 (l : Launch) (Z : State) (a0 : Array Value) (hw : ∀ d ∈ tables_1, d.before a0 Z = true) (ws : List Jvm.Cond) (a1 : Addr) (h0 : Heap) (n0 : Nat) (Z0 : n0 ≤ h0.size) (F : Fld Z h0 a1 "java/util/ArrayList" "size" "I" (.int (1 : Int32))) :
    MetFree l nm_19 (head1 (Jvm.Cond.code nm_19 jdk_38_method_8_code 1 (some .int) :: ws) rr0) (fun aa zU => aa = #[(.ref a1)] ∧ Z.Warmed39 zU.vm ∧ zU.heap = h0) (fun _ _ _ _ _ => True) (fun _ zU zo zU' => ∃ zv zL, zo = .returned zv ∧ QP (some (.int (1 : Int32))) h0 n0 zv zU'.heap zL ∧ FrameEnd zU zo zU' zL rr0.cells rr0.slots) := by
  refine MetFree.of_bodySF (plainFor_of_name pn_java_util_ArrayList) hisR ?_
  intro p e s m args below meth c s₁ Bd hml0 hP hK
  obtain ⟨rfl, hZ, hh⟩ := hP
  have hx := Bd.exec
  have hby := Bd.bytes
  have hml : c.maxLocals = 1 := hml0
  have hown : s.vm.findClass "java/util/ArrayList" = some m.cls := findClass_of_methodNamed Bd.named
  have hnm := (name_of_methodNamed Bd.named Bd.method).1
  have X0 : Stand p l e rr0 s m #[(.ref a1)] below meth c s₁ [] 0 0 := Stand.of_body Bd
  have e0 : s₁.heap = h0 := by rw [← hh, Bd.state]; rfl
  have N0 := Fr.nil n0
  have pre0 : ∀ t, Steps p.tables e below (s₁.setTop (mkF m 0 #[.val (.ref a1)] [])) t → Steps p.tables e below (s₁.setTop (entryFrame m #[(.ref a1)] 1)) t := fun t k => castTop (ef_19 m a1) k
  obtain ⟨T1, X1, e1, st1⟩ := getF X0 hx hZ hown (host := "") (Or.inl (ow hw 93 rfl)) Via.refl e0 F (g := (mkF m 1 #[.val (.ref a1)] [(.ref a1)])) rfl rfl (hb hby d19_1)
  obtain ⟨fsq, hr, hrun, hended, hW, hsame⟩ := X1.leave (v := some (.int (1 : Int32))) (fun h => by rw [Bd.returns] at h; cases h)
  refine ⟨_, _, pre0 _ ?_, hrun, hended, _, _, rfl, ?_, ⟨_, rfl⟩, hW, hsame.mono (by decide) (by decide)⟩
  · show Steps p.tables e below (s₁.setTop (mkF m 0 #[.val (.ref a1)] [])) _
    refine XS.aloadN X0.here hx rfl (hb hby d19_0) rfl rfl ?_
    refine st1 _ ?_
    show Steps p.tables e below (T1.setTop (mkF m 4 #[.val (.ref a1)] [(.int (1 : Int32))])) _
    exact retI X1 hx Bd.returns (hb hby d19_4) hr
  · show QP (some (.int (1 : Int32))) h0 n0 _ T1.heap _
    rw [e1]
    exact ⟨rfl, N0, rfl⟩
theorem d22_0 : decode jdk_41_method_11_code 0 = .ok (.iload_n 0, 1) := by decide +kernel
theorem d22_1 : decode jdk_41_method_11_code 1 = .ok (.ifCond .lt 8, 3) := by decide +kernel
theorem d22_4 : decode jdk_41_method_11_code 4 = .ok (.iload_n 0, 1) := by decide +kernel
theorem d22_5 : decode jdk_41_method_11_code 5 = .ok (.iload_n 1, 1) := by decide +kernel
theorem d22_6 : decode jdk_41_method_11_code 6 = .ok (.if_icmp .lt 10, 3) := by decide +kernel
theorem d22_16 : decode jdk_41_method_11_code 16 = .ok (.iload_n 0, 1) := by decide +kernel
theorem d22_17 : decode jdk_41_method_11_code 17 = .ok (.ireturn, 1) := by decide +kernel
theorem pn_jdk_internal_util_Preconditions : plainName "jdk/internal/util/Preconditions" = true := by first | (simp [plainName, overriddenIn]; done) | decide +kernel
theorem ef_22_IIN (m : MethodId) (x0 : Int32) (x1 : Int32) : entryFrame m #[(.int x0), (.int x1), .null] 3 = mkF m 0 #[.val (.int x0), .val (.int x1), .val .null] [] := by first | (simp [entryFrame, mkF, argsToLocals, Value.category]; done) | rfl
abbrev nm_22 : MethodName := ⟨"jdk/internal/util/Preconditions", "checkIndex", "(IILjava/util/function/BiFunction;)I"⟩
set_option maxRecDepth 65536 in
set_option maxHeartbeats 40000000 in
theorem rm22 (l : Launch) (Z : State) (a0 : Array Value) (hw : ∀ d ∈ tables_1, d.before a0 Z = true) (ws : List Jvm.Cond)  (h0 : Heap) (n0 : Nat) (Z0 : n0 ≤ h0.size) :
    MetFree l nm_22 (head1 (Jvm.Cond.code nm_22 jdk_41_method_11_code 3 (some .int) :: ws) rr0) (fun aa zU => aa = #[(.int (0 : Int32)), (.int (1 : Int32)), .null] ∧ Z.Warmed39 zU.vm ∧ zU.heap = h0) (fun _ _ _ _ _ => True) (fun _ zU zo zU' => ∃ zv zL, zo = .returned zv ∧ QP (some (.int (0 : Int32))) h0 n0 zv zU'.heap zL ∧ FrameEnd zU zo zU' zL rr0.cells rr0.slots) := by
  refine MetFree.of_bodySF (plainFor_of_name pn_jdk_internal_util_Preconditions) hisR ?_
  intro p e s m args below meth c s₁ Bd hml0 hP hK
  obtain ⟨rfl, hZ, hh⟩ := hP
  have hx := Bd.exec
  have hby := Bd.bytes
  have hml : c.maxLocals = 3 := hml0
  have hown : s.vm.findClass "jdk/internal/util/Preconditions" = some m.cls := findClass_of_methodNamed Bd.named
  have hnm := (name_of_methodNamed Bd.named Bd.method).1
  have X0 : Stand p l e rr0 s m #[(.int (0 : Int32)), (.int (1 : Int32)), .null] below meth c s₁ [] 0 0 := Stand.of_body Bd
  have e0 : s₁.heap = h0 := by rw [← hh, Bd.state]; rfl
  have N0 := Fr.nil n0
  have pre0 : ∀ t, Steps p.tables e below (s₁.setTop (mkF m 0 #[.val (.int (0 : Int32)), .val (.int (1 : Int32)), .val .null] [])) t → Steps p.tables e below (s₁.setTop (entryFrame m #[(.int (0 : Int32)), (.int (1 : Int32)), .null] 3)) t := fun t k => castTop (ef_22_IIN m (0 : Int32) (1 : Int32)) k
  obtain ⟨fsq, hr, hrun, hended, hW, hsame⟩ := X0.leave (v := some (.int (0 : Int32))) (fun h => by rw [Bd.returns] at h; cases h)
  refine ⟨_, _, pre0 _ ?_, hrun, hended, _, _, rfl, ?_, ⟨_, rfl⟩, hW, hsame.mono (by decide) (by decide)⟩
  · show Steps p.tables e below (s₁.setTop (mkF m 0 #[.val (.int (0 : Int32)), .val (.int (1 : Int32)), .val .null] [])) _
    refine XS.iloadN X0.here hx rfl (hb hby d22_0) rfl ?_
    refine XS.ifNo X0.here hx rfl (hb hby d22_1) rfl ((if0 _ _).trans (flt ((by decide) : ¬ ((0 : Int32) < (0 : Int32)))).1) ?_
    refine XS.iloadN X0.here hx rfl (hb hby d22_4) rfl ?_
    show Steps p.tables e below (s₁.setTop (mkF m 5 #[.val (.int (0 : Int32)), .val (.int (1 : Int32)), .val .null] [(.int (0 : Int32))])) _
    refine XS.iloadN X0.here hx rfl (hb hby d22_5) rfl ?_
    refine XS.icmpYes X0.here hx rfl (pc0 := 6) (pc' := 16) rfl (hb hby d22_6) rfl (tlt ((by decide) : (0 : Int32) < (1 : Int32))).1 (by decide) (by decide) ?_
    refine XS.iloadN X0.here hx rfl (hb hby d22_16) rfl ?_
    show Steps p.tables e below (s₁.setTop (mkF m 17 #[.val (.int (0 : Int32)), .val (.int (1 : Int32)), .val .null] [(.int (0 : Int32))])) _
    exact retI X0 hx Bd.returns (hb hby d22_17) hr
  · show QP (some (.int (0 : Int32))) h0 n0 _ s₁.heap _
    rw [e0]
    exact ⟨rfl, N0, rfl⟩
abbrev rr_1_0_0_14 : Room := { frames := 1, cells := 0, slots := 0, locals := 14 }
theorem d21_0 : decode jdk_31_method_17_code 0 = .ok (.iload_n 0, 1) := by decide +kernel
theorem d21_1 : decode jdk_31_method_17_code 1 = .ok (.iload_n 1, 1) := by decide +kernel
theorem d21_2 : decode jdk_31_method_17_code 2 = .ok (.aconst_null, 1) := by decide +kernel
theorem pd_16 : parseMethodDescriptor "(IILjava/util/function/BiFunction;)I" = some ⟨[.int, .int, (.object "java/util/function/BiFunction")], some .int⟩ := by decide +kernel
theorem d21_3 : decode jdk_31_method_17_code 3 = .ok (.invokestatic 105, 3) := by decide +kernel
theorem d21_6 : decode jdk_31_method_17_code 6 = .ok (.ireturn, 1) := by decide +kernel
theorem ef_21 (m : MethodId) (x0 : Int32) (x1 : Int32) : entryFrame m #[(.int x0), (.int x1)] 2 = mkF m 0 #[.val (.int x0), .val (.int x1)] [] := by first | (simp [entryFrame, mkF, argsToLocals, Value.category]; done) | rfl
abbrev nm_21 : MethodName := ⟨"java/util/Objects", "checkIndex", "(II)I"⟩
set_option maxRecDepth 65536 in
set_option maxHeartbeats 40000000 in
theorem rm21 (l : Launch) (Z : State) (a0 : Array Value) (hw : ∀ d ∈ tables_1, d.before a0 Z = true) (ws : List Jvm.Cond)  (h0 : Heap) (n0 : Nat) (Z0 : n0 ≤ h0.size) :
    MetFree l nm_21 (head1 (Jvm.Cond.code nm_21 jdk_31_method_17_code 2 (some .int) :: ws) rr_1_0_0_14) (fun aa zU => aa = #[(.int (0 : Int32)), (.int (1 : Int32))] ∧ Z.Warmed39 zU.vm ∧ zU.heap = h0) (fun _ _ _ _ _ => True) (fun _ zU zo zU' => ∃ zv zL, zo = .returned zv ∧ QP (some (.int (0 : Int32))) h0 n0 zv zU'.heap zL ∧ FrameEnd zU zo zU' zL rr_1_0_0_14.cells rr_1_0_0_14.slots) := by
  refine MetFree.of_bodySF (plainFor_of_name pn_java_util_Objects) hisR ?_
  intro p e s m args below meth c s₁ Bd hml0 hP hK
  obtain ⟨rfl, hZ, hh⟩ := hP
  have hx := Bd.exec
  have hby := Bd.bytes
  have hml : c.maxLocals = 2 := hml0
  have hown : s.vm.findClass "java/util/Objects" = some m.cls := findClass_of_methodNamed Bd.named
  have hnm := (name_of_methodNamed Bd.named Bd.method).1
  have X0 : Stand p l e rr_1_0_0_14 s m #[(.int (0 : Int32)), (.int (1 : Int32))] below meth c s₁ [] 0 0 := Stand.of_body Bd
  have e0 : s₁.heap = h0 := by rw [← hh, Bd.state]; rfl
  have N0 := Fr.nil n0
  have pre0 : ∀ t, Steps p.tables e below (s₁.setTop (mkF m 0 #[.val (.int (0 : Int32)), .val (.int (1 : Int32))] [])) t → Steps p.tables e below (s₁.setTop (entryFrame m #[(.int (0 : Int32)), (.int (1 : Int32))] 2)) t := fun t k => castTop (ef_21 m (0 : Int32) (1 : Int32)) k
  obtain ⟨_, _, ⟨T1, L1, k1, n1⟩, -, X1, ⟨Lc1, hQ1, l1, y1, z1⟩, st1⟩ := Jvm.LawKit.callS X0 hx (y := nm_22) hown (mvT hZ (ow hw 151 rfl)) (mvT hZ (ow hw 152 rfl)) (mvT hZ (ow hw 153 rfl)) (mvT hZ (ow hw 154 rfl)) (by decide) (backOf (W := 0) (rm22 l Z a0 hw [] h0 n0 Z0) hZ (ow hw 154 rfl) (ow hw 153 rfl) (by decide) (by decide)) (g := (mkF m 3 #[.val (.int (0 : Int32)), .val (.int (1 : Int32))] [.null, (.int (1 : Int32)), (.int (0 : Int32))])) rfl (by rw [hml]; rfl) (argsL := [(.int (0 : Int32)), (.int (1 : Int32)), .null]) (rest := []) (lenOf pd_16 rfl) rfl (by show 2 * 0 + _ ≤ _; exact Nat.le_of_eq rfl) (hb hby d21_3) (fun _ _ => ⟨rfl, e0, (by decide : 0 + 0 ≤ _), (by decide : 0 + 0 ≤ _)⟩)
  dsimp only [Pt.U, Pt.locs, Pt.cells, Pt.slots] at X1 l1 y1 z1 st1 hQ1
  subst l1 y1 z1
  obtain ⟨rfl, N1q, e1⟩ := hQ1
  have N1 := Fr.app N0 N1q
  obtain ⟨fsq, hr, hrun, hended, hW, hsame⟩ := X1.leave (v := some (.int (0 : Int32))) (fun h => by rw [Bd.returns] at h; cases h)
  refine ⟨_, _, pre0 _ ?_, hrun, hended, _, _, rfl, ?_, ⟨_, rfl⟩, hW, hsame.mono (by decide) (by decide)⟩
  · show Steps p.tables e below (s₁.setTop (mkF m 0 #[.val (.int (0 : Int32)), .val (.int (1 : Int32))] [])) _
    refine XS.iloadN X0.here hx rfl (hb hby d21_0) rfl ?_
    refine XS.iloadN X0.here hx rfl (hb hby d21_1) rfl ?_
    refine XS.aconstNull X0.here hx rfl (hb hby d21_2) ?_
    show Steps p.tables e below (s₁.setTop (mkF m 3 #[.val (.int (0 : Int32)), .val (.int (1 : Int32))] [.null, (.int (1 : Int32)), (.int (0 : Int32))])) _
    refine st1 _ ?_
    show Steps p.tables e below (T1.setTop (mkF m 6 #[.val (.int (0 : Int32)), .val (.int (1 : Int32))] [(.int (0 : Int32))])) _
    exact retI X1 hx Bd.returns (hb hby d21_6) hr
  · show QP (some (.int (0 : Int32))) h0 n0 _ T1.heap _
    rw [e1]
    exact ⟨rfl, N1, rfl⟩
theorem d23_0 : decode jdk_38_method_18_code 0 = .ok (.aload_n 0, 1) := by decide +kernel
theorem d23_1 : decode jdk_38_method_18_code 1 = .ok (.getfield 9, 3) := by decide +kernel
theorem d23_4 : decode jdk_38_method_18_code 4 = .ok (.iload_n 1, 1) := by decide +kernel
theorem d23_5 : decode jdk_38_method_18_code 5 = .ok (.aaload, 1) := by decide +kernel
theorem d23_6 : decode jdk_38_method_18_code 6 = .ok (.areturn, 1) := by decide +kernel
theorem ef_23 (m : MethodId) (x0 : Addr) (x1 : Int32) : entryFrame m #[(.ref x0), (.int x1)] 2 = mkF m 0 #[.val (.ref x0), .val (.int x1)] [] := by first | (simp [entryFrame, mkF, argsToLocals, Value.category]; done) | rfl
abbrev nm_23 : MethodName := ⟨"java/util/ArrayList", "elementData", "(I)Ljava/lang/Object;"⟩
set_option maxRecDepth 65536 in
set_option maxHeartbeats 40000000 in
theorem rm23 (l : Launch) (Z : State) (a0 : Array Value) (hw : ∀ d ∈ tables_1, d.before a0 Z = true) (ws : List Jvm.Cond) (a1 : Addr) (a2 : Addr) (b : Addr) (k : ClassId) (h0 : Heap) (n0 : Nat) (Z0 : n0 ≤ h0.size) (FE : Fld Z h0 a1 "java/util/ArrayList" "elementData" "[Ljava/lang/Object;" (.ref b)) (VB : Arv Z h0 b k (.object "java/lang/Object") (10 : Int32) [(.ref a2), .null, .null, .null, .null, .null, .null, .null, .null, .null] .null) :
    MetFree l nm_23 (head1 (Jvm.Cond.code nm_23 jdk_38_method_18_code 2 (some (.object "java/lang/Object")) :: ws) rr0) (fun aa zU => aa = #[(.ref a1), (.int (0 : Int32))] ∧ Z.Warmed39 zU.vm ∧ zU.heap = h0) (fun _ _ _ _ _ => True) (fun _ zU zo zU' => ∃ zv zL, zo = .returned zv ∧ QP (some (.ref a2)) h0 n0 zv zU'.heap zL ∧ FrameEnd zU zo zU' zL rr0.cells rr0.slots) := by
  refine MetFree.of_bodySF (plainFor_of_name pn_java_util_ArrayList) hisR ?_
  intro p e s m args below meth c s₁ Bd hml0 hP hK
  obtain ⟨rfl, hZ, hh⟩ := hP
  have hx := Bd.exec
  have hby := Bd.bytes
  have hml : c.maxLocals = 2 := hml0
  have hown : s.vm.findClass "java/util/ArrayList" = some m.cls := findClass_of_methodNamed Bd.named
  have hnm := (name_of_methodNamed Bd.named Bd.method).1
  have X0 : Stand p l e rr0 s m #[(.ref a1), (.int (0 : Int32))] below meth c s₁ [] 0 0 := Stand.of_body Bd
  have e0 : s₁.heap = h0 := by rw [← hh, Bd.state]; rfl
  have N0 := Fr.nil n0
  have pre0 : ∀ t, Steps p.tables e below (s₁.setTop (mkF m 0 #[.val (.ref a1), .val (.int (0 : Int32))] [])) t → Steps p.tables e below (s₁.setTop (entryFrame m #[(.ref a1), (.int (0 : Int32))] 2)) t := fun t k => castTop (ef_23 m a1 (0 : Int32)) k
  obtain ⟨T1, X1, e1, st1⟩ := getF X0 hx hZ hown (host := "") (Or.inl (ow hw 25 rfl)) Via.refl e0 FE (g := (mkF m 1 #[.val (.ref a1), .val (.int (0 : Int32))] [(.ref a1)])) rfl rfl (hb hby d23_1)
  obtain ⟨clz2, Arz2, qz2, Sz2, Nz2, Hz2, Gz2⟩ := id VB
  have hin3 : ¬ ((0 : Int32) < 0 ∨ clz2.slots.size ≤ ((0 : Int32)).toNatClampNeg) := inb_of Sz2 ⟨by decide, by decide⟩
  have hat3 : clz2.slots[((0 : Int32)).toNatClampNeg]? = some (.ref a2) := Hz2.at hin3 rfl
  obtain ⟨fsq, hr, hrun, hended, hW, hsame⟩ := X1.leave (v := some (.ref a2)) (fun h => by rw [Bd.returns] at h; cases h)
  refine ⟨_, _, pre0 _ ?_, hrun, hended, _, _, rfl, ?_, ⟨_, rfl⟩, hW, hsame.mono (by decide) (by decide)⟩
  · show Steps p.tables e below (s₁.setTop (mkF m 0 #[.val (.ref a1), .val (.int (0 : Int32))] [])) _
    refine XS.aloadN X0.here hx rfl (hb hby d23_0) rfl rfl ?_
    refine st1 _ ?_
    refine XS.iloadN X1.here hx rfl (hb hby d23_4) rfl ?_
    show Steps p.tables e below (T1.setTop (mkF m 5 #[.val (.ref a1), .val (.int (0 : Int32))] [(.int (0 : Int32)), (.ref b)])) _
    refine X1.aaload hx (j := (0 : Int32)) (v := (.ref a2)) (by rw [e1]; exact Arz2.1) (State.isArrayOf_alike hZ.alike Arz2.2.1) rfl Arz2.2.2 hin3 hat3 (g := (mkF m 5 #[.val (.ref a1), .val (.int (0 : Int32))] [(.int (0 : Int32)), (.ref b)])) rfl rfl (hb hby d23_5) _ ?_
    show Steps p.tables e below (T1.setTop (mkF m 6 #[.val (.ref a1), .val (.int (0 : Int32))] [(.ref a2)])) _
    exact retOut X1 hx Bd.returns rfl (Or.inr (Or.inr (Or.inr (Or.inr ⟨rfl, rfl, rfl⟩)))) (hb hby d23_6) hr
  · show QP (some (.ref a2)) h0 n0 _ T1.heap _
    rw [e1]
    exact ⟨rfl, N0, rfl⟩
abbrev rr_2_0_0_27 : Room := { frames := 2, cells := 0, slots := 0, locals := 27 }
theorem d20_0 : decode jdk_38_method_20_code 0 = .ok (.iload_n 1, 1) := by decide +kernel
theorem d20_1 : decode jdk_38_method_20_code 1 = .ok (.aload_n 0, 1) := by decide +kernel
theorem d20_2 : decode jdk_38_method_20_code 2 = .ok (.getfield 48, 3) := by decide +kernel
theorem d20_5 : decode jdk_38_method_20_code 5 = .ok (.invokestatic 118, 3) := by decide +kernel
theorem d20_8 : decode jdk_38_method_20_code 8 = .ok (.pop, 1) := by decide +kernel
theorem d20_9 : decode jdk_38_method_20_code 9 = .ok (.aload_n 0, 1) := by decide +kernel
theorem d20_10 : decode jdk_38_method_20_code 10 = .ok (.iload_n 1, 1) := by decide +kernel
theorem pd_15 : parseMethodDescriptor "(I)Ljava/lang/Object;" = some ⟨[.int], some (.object "java/lang/Object")⟩ := by decide +kernel
theorem d20_11 : decode jdk_38_method_20_code 11 = .ok (.invokevirtual 123, 3) := by decide +kernel
theorem d20_14 : decode jdk_38_method_20_code 14 = .ok (.areturn, 1) := by decide +kernel
theorem ef_20 (m : MethodId) (x0 : Addr) (x1 : Int32) : entryFrame m #[(.ref x0), (.int x1)] 2 = mkF m 0 #[.val (.ref x0), .val (.int x1)] [] := by first | (simp [entryFrame, mkF, argsToLocals, Value.category]; done) | rfl
abbrev nm_20 : MethodName := ⟨"java/util/ArrayList", "get", "(I)Ljava/lang/Object;"⟩
set_option maxRecDepth 65536 in
set_option maxHeartbeats 40000000 in
theorem rm20 (l : Launch) (Z : State) (a0 : Array Value) (hw : ∀ d ∈ tables_1, d.before a0 Z = true) (ws : List Jvm.Cond) (a1 : Addr) (a2 : Addr) (b : Addr) (k : ClassId) (h0 : Heap) (n0 : Nat) (Z0 : n0 ≤ h0.size) (FE : Fld Z h0 a1 "java/util/ArrayList" "elementData" "[Ljava/lang/Object;" (.ref b)) (VB : Arv Z h0 b k (.object "java/lang/Object") (10 : Int32) [(.ref a2), .null, .null, .null, .null, .null, .null, .null, .null, .null] .null) (FZ : Fld Z h0 a1 "java/util/ArrayList" "size" "I" (.int (1 : Int32))) (EA : Exa Z h0 a1 "java/util/ArrayList") :
    MetFree l nm_20 (head1 (Jvm.Cond.code nm_20 jdk_38_method_20_code 2 (some (.object "java/lang/Object")) :: ws) rr_2_0_0_27) (fun aa zU => aa = #[(.ref a1), (.int (0 : Int32))] ∧ Z.Warmed39 zU.vm ∧ zU.heap = h0) (fun _ _ _ _ _ => True) (fun _ zU zo zU' => ∃ zv zL, zo = .returned zv ∧ QP (some (.ref a2)) h0 n0 zv zU'.heap zL ∧ FrameEnd zU zo zU' zL rr_2_0_0_27.cells rr_2_0_0_27.slots) := by
  refine MetFree.of_bodySF (plainFor_of_name pn_java_util_ArrayList) hisR ?_
  intro p e s m args below meth c s₁ Bd hml0 hP hK
  obtain ⟨rfl, hZ, hh⟩ := hP
  have hx := Bd.exec
  have hby := Bd.bytes
  have hml : c.maxLocals = 2 := hml0
  have hown : s.vm.findClass "java/util/ArrayList" = some m.cls := findClass_of_methodNamed Bd.named
  have hnm := (name_of_methodNamed Bd.named Bd.method).1
  have X0 : Stand p l e rr_2_0_0_27 s m #[(.ref a1), (.int (0 : Int32))] below meth c s₁ [] 0 0 := Stand.of_body Bd
  have e0 : s₁.heap = h0 := by rw [← hh, Bd.state]; rfl
  have N0 := Fr.nil n0
  have pre0 : ∀ t, Steps p.tables e below (s₁.setTop (mkF m 0 #[.val (.ref a1), .val (.int (0 : Int32))] [])) t → Steps p.tables e below (s₁.setTop (entryFrame m #[(.ref a1), (.int (0 : Int32))] 2)) t := fun t k => castTop (ef_20 m a1 (0 : Int32)) k
  obtain ⟨T1, X1, e1, st1⟩ := getF X0 hx hZ hown (host := "") (Or.inl (ow hw 93 rfl)) Via.refl e0 FZ (g := (mkF m 2 #[.val (.ref a1), .val (.int (0 : Int32))] [(.ref a1), (.int (0 : Int32))])) rfl rfl (hb hby d20_2)
  obtain ⟨_, _, ⟨T2, L2, k2, n2⟩, -, X2, ⟨Lc2, hQ2, l2, y2, z2⟩, st2⟩ := Jvm.LawKit.callS X1 hx (y := nm_21) hown (mvT hZ (ow hw 148 rfl)) (mvT hZ (ow hw 149 rfl)) (mvT hZ (ow hw 68 rfl)) (mvT hZ (ow hw 150 rfl)) (by decide) (backOf (W := 0) (rm21 l Z a0 hw [] h0 n0 Z0) hZ (ow hw 150 rfl) (ow hw 68 rfl) (by decide) (by decide)) (g := (mkF m 5 #[.val (.ref a1), .val (.int (0 : Int32))] [(.int (1 : Int32)), (.int (0 : Int32))])) rfl (by rw [hml]; rfl) (argsL := [(.int (0 : Int32)), (.int (1 : Int32))]) (rest := []) (lenOf pd_12 rfl) rfl (by show 2 * 0 + _ ≤ _; exact Nat.le_of_eq rfl) (hb hby d20_5) (fun _ _ => ⟨rfl, e1, (by decide : 0 + 0 ≤ _), (by decide : 0 + 0 ≤ _)⟩)
  dsimp only [Pt.U, Pt.locs, Pt.cells, Pt.slots] at X2 l2 y2 z2 st2 hQ2
  subst l2 y2 z2
  obtain ⟨rfl, N2q, e2⟩ := hQ2
  have N2 := Fr.app N0 N2q
  obtain ⟨cq3, kq3, q3a, q3b, q3c⟩ := isOf hZ e2 EA
  obtain ⟨_, _, ⟨T3, L3, k3, n3⟩, -, X3, ⟨Lc3, hQ3, l3, y3, z3⟩, st3⟩ := X2.virtualBack hx (y := nm_23) (z := nm_23) hown (mvT hZ (ow hw 155 rfl)) (mvT hZ (ow hw 156 rfl)) (notFace_of_selects (args := #[]) (mvT hZ (ow hw 158 rfl))) (mvT hZ (ow hw 158 rfl)) (mvT hZ (ow hw 157 rfl)) (by decide) (backOf (W := 0) (rm23 l Z a0 hw [] a1 a2 b k h0 n0 Z0 FE VB) hZ (ow hw 159 rfl) (ow hw 3 rfl) (by decide) (by decide)) q3a q3c (g := (mkF m 11 #[.val (.ref a1), .val (.int (0 : Int32))] [(.int (0 : Int32)), (.ref a1)])) rfl (by rw [hml]; rfl) (Steps.refl _) (argsL := [(.int (0 : Int32))]) (rest := []) (lenOf pd_15 rfl) rfl (by show 2 * 0 + _ ≤ _; exact Nat.le_of_eq rfl) (hb hby d20_11) (fun _ _ => ⟨rfl, e2, (by decide : 0 + 0 ≤ _), (by decide : 0 + 0 ≤ _)⟩)
  dsimp only [Pt.U, Pt.locs, Pt.cells, Pt.slots] at X3 l3 y3 z3 st3 hQ3
  subst l3 y3 z3
  obtain ⟨rfl, N3q, e3⟩ := hQ3
  have N3 := Fr.app N2 N3q
  obtain ⟨fsq, hr, hrun, hended, hW, hsame⟩ := X3.leave (v := some (.ref a2)) (fun h => by rw [Bd.returns] at h; cases h)
  refine ⟨_, _, pre0 _ ?_, hrun, hended, _, _, rfl, ?_, ⟨_, rfl⟩, hW, hsame.mono (by decide) (by decide)⟩
  · show Steps p.tables e below (s₁.setTop (mkF m 0 #[.val (.ref a1), .val (.int (0 : Int32))] [])) _
    refine XS.iloadN X0.here hx rfl (hb hby d20_0) rfl ?_
    refine XS.aloadN X0.here hx rfl (hb hby d20_1) rfl rfl ?_
    refine st1 _ ?_
    show Steps p.tables e below (T1.setTop (mkF m 5 #[.val (.ref a1), .val (.int (0 : Int32))] [(.int (1 : Int32)), (.int (0 : Int32))])) _
    refine st2 _ ?_
    refine XS.pop X2.here hx rfl (hb hby d20_8) rfl rfl ?_
    refine XS.aloadN X2.here hx rfl (hb hby d20_9) rfl rfl ?_
    show Steps p.tables e below (T2.setTop (mkF m 10 #[.val (.ref a1), .val (.int (0 : Int32))] [(.ref a1)])) _
    refine XS.iloadN X2.here hx rfl (hb hby d20_10) rfl ?_
    refine st3.trans ?_
    show Steps p.tables e below (T3.setTop (mkF m 14 #[.val (.ref a1), .val (.int (0 : Int32))] [(.ref a2)])) _
    exact retOut X3 hx Bd.returns rfl (Or.inr (Or.inr (Or.inr (Or.inr ⟨rfl, rfl, rfl⟩)))) (hb hby d20_14) hr
  · show QP (some (.ref a2)) h0 n0 _ T3.heap _
    rw [e3]
    exact ⟨rfl, N3, rfl⟩
theorem d24_0 : decode prog_17_method_5_code 0 = .ok (.aload_n 0, 1) := by decide +kernel
theorem d24_1 : decode prog_17_method_5_code 1 = .ok (.getfield 51, 3) := by decide +kernel
theorem d24_4 : decode prog_17_method_5_code 4 = .ok (.ireturn, 1) := by decide +kernel
theorem ef_24 (m : MethodId) (x0 : Addr) : entryFrame m #[(.ref x0)] 1 = mkF m 0 #[.val (.ref x0)] [] := by first | (simp [entryFrame, mkF, argsToLocals, Value.category]; done) | rfl
abbrev nm_24 : MethodName := ⟨"com/example/steady_sluice/steadysluice/Rule", "count", "()I"⟩
set_option maxRecDepth 65536 in
set_option maxHeartbeats 40000000 in
theorem rm24 (l : Launch) (Z : State) (a0 : Array Value) (hw : ∀ d ∈ tables_1, d.before a0 Z = true) (ws : List Jvm.Cond) (a1 : Addr) (cn : Int32) (h0 : Heap) (n0 : Nat) (Z0 : n0 ≤ h0.size) (F : Fld Z h0 a1 "com/example/steady_sluice/steadysluice/Rule" "count" "I" (.int cn)) :
    MetFree l nm_24 (head1 (Jvm.Cond.code nm_24 prog_17_method_5_code 1 (some .int) :: ws) rr0) (fun aa zU => aa = #[(.ref a1)] ∧ Z.Warmed39 zU.vm ∧ zU.heap = h0) (fun _ _ _ _ _ => True) (fun _ zU zo zU' => ∃ zv zL, zo = .returned zv ∧ QP (some (.int cn)) h0 n0 zv zU'.heap zL ∧ FrameEnd zU zo zU' zL rr0.cells rr0.slots) := by
  refine MetFree.of_bodySF (plainFor_of_name pn_com_example_steady_sluice_steadysluice_Rule) hisR ?_
  intro p e s m args below meth c s₁ Bd hml0 hP hK
  obtain ⟨rfl, hZ, hh⟩ := hP
  have hx := Bd.exec
  have hby := Bd.bytes
  have hml : c.maxLocals = 1 := hml0
  have hown : s.vm.findClass "com/example/steady_sluice/steadysluice/Rule" = some m.cls := findClass_of_methodNamed Bd.named
  have hnm := (name_of_methodNamed Bd.named Bd.method).1
  have X0 : Stand p l e rr0 s m #[(.ref a1)] below meth c s₁ [] 0 0 := Stand.of_body Bd
  have e0 : s₁.heap = h0 := by rw [← hh, Bd.state]; rfl
  have N0 := Fr.nil n0
  have pre0 : ∀ t, Steps p.tables e below (s₁.setTop (mkF m 0 #[.val (.ref a1)] [])) t → Steps p.tables e below (s₁.setTop (entryFrame m #[(.ref a1)] 1)) t := fun t k => castTop (ef_24 m a1) k
  obtain ⟨T1, X1, e1, st1⟩ := getF X0 hx hZ hown (host := "") (Or.inl (ow hw 82 rfl)) Via.refl e0 F (g := (mkF m 1 #[.val (.ref a1)] [(.ref a1)])) rfl rfl (hb hby d24_1)
  obtain ⟨fsq, hr, hrun, hended, hW, hsame⟩ := X1.leave (v := some (.int cn)) (fun h => by rw [Bd.returns] at h; cases h)
  refine ⟨_, _, pre0 _ ?_, hrun, hended, _, _, rfl, ?_, ⟨_, rfl⟩, hW, hsame.mono (by decide) (by decide)⟩
  · show Steps p.tables e below (s₁.setTop (mkF m 0 #[.val (.ref a1)] [])) _
    refine XS.aloadN X0.here hx rfl (hb hby d24_0) rfl rfl ?_
    refine st1 _ ?_
    show Steps p.tables e below (T1.setTop (mkF m 4 #[.val (.ref a1)] [(.int cn)])) _
    exact retI X1 hx Bd.returns (hb hby d24_4) hr
  · show QP (some (.int cn)) h0 n0 _ T1.heap _
    rw [e1]
    exact ⟨rfl, N0, rfl⟩
theorem d25_0 : decode prog_17_method_6_code 0 = .ok (.aload_n 0, 1) := by decide +kernel
theorem d25_1 : decode prog_17_method_6_code 1 = .ok (.getfield 55, 3) := by decide +kernel
theorem d25_4 : decode prog_17_method_6_code 4 = .ok (.areturn, 1) := by decide +kernel
theorem ef_25 (m : MethodId) (x0 : Addr) : entryFrame m #[(.ref x0)] 1 = mkF m 0 #[.val (.ref x0)] [] := by first | (simp [entryFrame, mkF, argsToLocals, Value.category]; done) | rfl
abbrev nm_25 : MethodName := ⟨"com/example/steady_sluice/steadysluice/Rule", "period", "()Ljava/time/Duration;"⟩
set_option maxRecDepth 65536 in
set_option maxHeartbeats 40000000 in
theorem rm25 (l : Launch) (Z : State) (a0 : Array Value) (hw : ∀ d ∈ tables_1, d.before a0 Z = true) (ws : List Jvm.Cond) (a1 : Addr) (a2 : Addr) (h0 : Heap) (n0 : Nat) (Z0 : n0 ≤ h0.size) (F : Fld Z h0 a1 "com/example/steady_sluice/steadysluice/Rule" "period" "Ljava/time/Duration;" (.ref a2)) :
    MetFree l nm_25 (head1 (Jvm.Cond.code nm_25 prog_17_method_6_code 1 (some (.object "java/time/Duration")) :: ws) rr0) (fun aa zU => aa = #[(.ref a1)] ∧ Z.Warmed39 zU.vm ∧ zU.heap = h0) (fun _ _ _ _ _ => True) (fun _ zU zo zU' => ∃ zv zL, zo = .returned zv ∧ QP (some (.ref a2)) h0 n0 zv zU'.heap zL ∧ FrameEnd zU zo zU' zL rr0.cells rr0.slots) := by
  refine MetFree.of_bodySF (plainFor_of_name pn_com_example_steady_sluice_steadysluice_Rule) hisR ?_
  intro p e s m args below meth c s₁ Bd hml0 hP hK
  obtain ⟨rfl, hZ, hh⟩ := hP
  have hx := Bd.exec
  have hby := Bd.bytes
  have hml : c.maxLocals = 1 := hml0
  have hown : s.vm.findClass "com/example/steady_sluice/steadysluice/Rule" = some m.cls := findClass_of_methodNamed Bd.named
  have hnm := (name_of_methodNamed Bd.named Bd.method).1
  have X0 : Stand p l e rr0 s m #[(.ref a1)] below meth c s₁ [] 0 0 := Stand.of_body Bd
  have e0 : s₁.heap = h0 := by rw [← hh, Bd.state]; rfl
  have N0 := Fr.nil n0
  have pre0 : ∀ t, Steps p.tables e below (s₁.setTop (mkF m 0 #[.val (.ref a1)] [])) t → Steps p.tables e below (s₁.setTop (entryFrame m #[(.ref a1)] 1)) t := fun t k => castTop (ef_25 m a1) k
  obtain ⟨T1, X1, e1, st1⟩ := getF X0 hx hZ hown (host := "") (Or.inl (ow hw 84 rfl)) Via.refl e0 F (g := (mkF m 1 #[.val (.ref a1)] [(.ref a1)])) rfl rfl (hb hby d25_1)
  obtain ⟨fsq, hr, hrun, hended, hW, hsame⟩ := X1.leave (v := some (.ref a2)) (fun h => by rw [Bd.returns] at h; cases h)
  refine ⟨_, _, pre0 _ ?_, hrun, hended, _, _, rfl, ?_, ⟨_, rfl⟩, hW, hsame.mono (by decide) (by decide)⟩
  · show Steps p.tables e below (s₁.setTop (mkF m 0 #[.val (.ref a1)] [])) _
    refine XS.aloadN X0.here hx rfl (hb hby d25_0) rfl rfl ?_
    refine st1 _ ?_
    show Steps p.tables e below (T1.setTop (mkF m 4 #[.val (.ref a1)] [(.ref a2)])) _
    exact retOut X1 hx Bd.returns rfl (Or.inr (Or.inr (Or.inr (Or.inr ⟨rfl, rfl, rfl⟩)))) (hb hby d25_4) hr
  · show QP (some (.ref a2)) h0 n0 _ T1.heap _
    rw [e1]
    exact ⟨rfl, N0, rfl⟩
theorem d28_0 : decode jdk_29_method_61_code 0 = .ok (.lload_n 0, 1) := by decide +kernel
theorem d28_1 : decode jdk_29_method_61_code 1 = .ok (.lconst 0, 1) := by decide +kernel
theorem d28_2 : decode jdk_29_method_61_code 2 = .ok (.lcmp, 1) := by decide +kernel
theorem d28_3 : decode jdk_29_method_61_code 3 = .ok (.ifCond .ge 8, 3) := by decide +kernel
theorem d28_11 : decode jdk_29_method_61_code 11 = .ok (.lload_n 0, 1) := by decide +kernel
theorem d28_12 : decode jdk_29_method_61_code 12 = .ok (.lreturn, 1) := by decide +kernel
theorem ef_28 (m : MethodId) (x0 : Int64) : entryFrame m #[(.long x0)] 2 = mkF m 0 #[.val (.long x0), .second] [] := by first | (simp [entryFrame, mkF, argsToLocals, Value.category]; done) | rfl
abbrev nm_28 : MethodName := ⟨"java/lang/Math", "abs", "(J)J"⟩
set_option maxRecDepth 65536 in
set_option maxHeartbeats 40000000 in
theorem rm28 (l : Launch) (Z : State) (a0 : Array Value) (hw : ∀ d ∈ tables_1, d.before a0 Z = true) (ws : List Jvm.Cond) (q : Int64) (h0 : Heap) (n0 : Nat) (Z0 : n0 ≤ h0.size) (hc3 : ¬ (q < (0 : Int64))) :
    MetFree l nm_28 (head1 (Jvm.Cond.code nm_28 jdk_29_method_61_code 2 (some .long) :: ws) rr0) (fun aa zU => aa = #[(.long q)] ∧ Z.Warmed39 zU.vm ∧ zU.heap = h0) (fun _ _ _ _ _ => True) (fun _ zU zo zU' => ∃ zv zL, zo = .returned zv ∧ QP (some (.long q)) h0 n0 zv zU'.heap zL ∧ FrameEnd zU zo zU' zL rr0.cells rr0.slots) := by
  refine MetFree.of_bodySF (Jvm.Free.JP.mathPlain rfl (by decide +kernel)) hisR ?_
  intro p e s m args below meth c s₁ Bd hml0 hP hK
  obtain ⟨rfl, hZ, hh⟩ := hP
  have hx := Bd.exec
  have hby := Bd.bytes
  have hml : c.maxLocals = 2 := hml0
  have hown : s.vm.findClass "java/lang/Math" = some m.cls := findClass_of_methodNamed Bd.named
  have hnm := (name_of_methodNamed Bd.named Bd.method).1
  have X0 : Stand p l e rr0 s m #[(.long q)] below meth c s₁ [] 0 0 := Stand.of_body Bd
  have e0 : s₁.heap = h0 := by rw [← hh, Bd.state]; rfl
  have N0 := Fr.nil n0
  have pre0 : ∀ t, Steps p.tables e below (s₁.setTop (mkF m 0 #[.val (.long q), .second] [])) t → Steps p.tables e below (s₁.setTop (entryFrame m #[(.long q)] 2)) t := fun t k => castTop (ef_28 m q) k
  obtain ⟨fsq, hr, hrun, hended, hW, hsame⟩ := X0.leave (v := some (.long q)) (fun h => by rw [Bd.returns] at h; cases h)
  refine ⟨_, _, pre0 _ ?_, hrun, hended, _, _, rfl, ?_, ⟨_, rfl⟩, hW, hsame.mono (by decide) (by decide)⟩
  · show Steps p.tables e below (s₁.setTop (mkF m 0 #[.val (.long q), .second] [])) _
    refine XS.lloadN X0.here hx rfl (hb hby d28_0) rfl ?_
    refine XS.lconst X0.here hx rfl (hb hby d28_1) ?_
    refine XS.lcmp X0.here hx rfl (hb hby d28_2) rfl ?_
    show Steps p.tables e below (s₁.setTop (mkF m 3 #[.val (.long q), .second] [(.int (lcmpW q (0 : Int64)))])) _
    refine XS.ifYes X0.here hx rfl (pc0 := 3) (pc' := 11) rfl (hb hby d28_3) rfl ((if0 _ _).trans (flt (fun z => hc3 ((lw_lt _ _).mp z))).2.1) (by decide) (by decide) ?_
    refine XS.lloadN X0.here hx rfl (hb hby d28_11) rfl ?_
    show Steps p.tables e below (s₁.setTop (mkF m 12 #[.val (.long q), .second] [(.long q)])) _
    exact retOut X0 hx Bd.returns rfl (Or.inr (Or.inl ⟨rfl, rfl, _, rfl⟩)) (hb hby d28_12) hr
  · show QP (some (.long q)) h0 n0 _ s₁.heap _
    rw [e0]
    exact ⟨rfl, N0, rfl⟩
abbrev rr_1_0_0_13 : Room := { frames := 1, cells := 0, slots := 0, locals := 13 }
theorem d27_0 : decode jdk_29_method_30_code 0 = .ok (.lload_n 0, 1) := by decide +kernel
theorem d27_1 : decode jdk_29_method_30_code 1 = .ok (.lload_n 2, 1) := by decide +kernel
theorem d27_2 : decode jdk_29_method_30_code 2 = .ok (.lmul, 1) := by decide +kernel
theorem d27_3 : decode jdk_29_method_30_code 3 = .ok (.lstore 4, 2) := by decide +kernel
theorem d27_5 : decode jdk_29_method_30_code 5 = .ok (.lload_n 0, 1) := by decide +kernel
theorem pd_20 : parseMethodDescriptor "(J)J" = some ⟨[.long], some .long⟩ := by decide +kernel
theorem d27_6 : decode jdk_29_method_30_code 6 = .ok (.invokestatic 122, 3) := by decide +kernel
theorem d27_9 : decode jdk_29_method_30_code 9 = .ok (.lstore 6, 2) := by decide +kernel
theorem d27_11 : decode jdk_29_method_30_code 11 = .ok (.lload_n 2, 1) := by decide +kernel
theorem d27_12 : decode jdk_29_method_30_code 12 = .ok (.invokestatic 122, 3) := by decide +kernel
theorem d27_15 : decode jdk_29_method_30_code 15 = .ok (.lstore 8, 2) := by decide +kernel
theorem d27_17 : decode jdk_29_method_30_code 17 = .ok (.lload 6, 2) := by decide +kernel
theorem d27_19 : decode jdk_29_method_30_code 19 = .ok (.lload 8, 2) := by decide +kernel
theorem d27_21 : decode jdk_29_method_30_code 21 = .ok (.lor, 1) := by decide +kernel
theorem d27_22 : decode jdk_29_method_30_code 22 = .ok (.bipush 31, 2) := by decide +kernel
theorem d27_24 : decode jdk_29_method_30_code 24 = .ok (.lushr, 1) := by decide +kernel
theorem d27_25 : decode jdk_29_method_30_code 25 = .ok (.lconst 0, 1) := by decide +kernel
theorem d27_26 : decode jdk_29_method_30_code 26 = .ok (.lcmp, 1) := by decide +kernel
theorem d27_27 : decode jdk_29_method_30_code 27 = .ok (.ifCond .eq 44, 3) := by decide +kernel
theorem d27_71 : decode jdk_29_method_30_code 71 = .ok (.lload 4, 2) := by decide +kernel
theorem d27_73 : decode jdk_29_method_30_code 73 = .ok (.lreturn, 1) := by decide +kernel
theorem ef_27 (m : MethodId) (x0 : Int64) (x1 : Int64) : entryFrame m #[(.long x0), (.long x1)] 10 = mkF m 0 #[.val (.long x0), .second, .val (.long x1), .second, .unset, .unset, .unset, .unset, .unset, .unset] [] := by first | (simp [entryFrame, mkF, argsToLocals, Value.category]; done) | rfl
abbrev nm_27 : MethodName := ⟨"java/lang/Math", "multiplyExact", "(JJ)J"⟩
set_option maxRecDepth 65536 in
set_option maxHeartbeats 40000000 in
theorem rm27 (l : Launch) (Z : State) (a0 : Array Value) (hw : ∀ d ∈ tables_1, d.before a0 Z = true) (ws : List Jvm.Cond)  (h0 : Heap) (n0 : Nat) (Z0 : n0 ≤ h0.size) :
    MetFree l nm_27 (head1 (Jvm.Cond.code nm_27 jdk_29_method_30_code 10 (some .long) :: ws) rr_1_0_0_13) (fun aa zU => aa = #[(.long (0 : Int64)), (.long (1000000000 : Int64))] ∧ Z.Warmed39 zU.vm ∧ zU.heap = h0) (fun _ _ _ _ _ => True) (fun _ zU zo zU' => ∃ zv zL, zo = .returned zv ∧ QP (some (.long (0 : Int64))) h0 n0 zv zU'.heap zL ∧ FrameEnd zU zo zU' zL rr_1_0_0_13.cells rr_1_0_0_13.slots) := by
  refine MetFree.of_bodySF (Jvm.Free.JP.mathPlain rfl (by decide +kernel)) hisR ?_
  intro p e s m args below meth c s₁ Bd hml0 hP hK
  obtain ⟨rfl, hZ, hh⟩ := hP
  have hx := Bd.exec
  have hby := Bd.bytes
  have hml : c.maxLocals = 10 := hml0
  have hown : s.vm.findClass "java/lang/Math" = some m.cls := findClass_of_methodNamed Bd.named
  have hnm := (name_of_methodNamed Bd.named Bd.method).1
  have X0 : Stand p l e rr_1_0_0_13 s m #[(.long (0 : Int64)), (.long (1000000000 : Int64))] below meth c s₁ [] 0 0 := Stand.of_body Bd
  have e0 : s₁.heap = h0 := by rw [← hh, Bd.state]; rfl
  have N0 := Fr.nil n0
  have pre0 : ∀ t, Steps p.tables e below (s₁.setTop (mkF m 0 #[.val (.long (0 : Int64)), .second, .val (.long (1000000000 : Int64)), .second, .unset, .unset, .unset, .unset, .unset, .unset] [])) t → Steps p.tables e below (s₁.setTop (entryFrame m #[(.long (0 : Int64)), (.long (1000000000 : Int64))] 10)) t := fun t k => castTop (ef_27 m (0 : Int64) (1000000000 : Int64)) k
  obtain ⟨_, _, ⟨T1, L1, k1, n1⟩, -, X1, ⟨Lc1, hQ1, l1, y1, z1⟩, st1⟩ := Jvm.LawKit.callS X0 hx (y := nm_28) hown (mvT hZ (ow hw 180 rfl)) (mvT hZ (ow hw 181 rfl)) (mvT hZ (ow hw 112 rfl)) (mvT hZ (ow hw 182 rfl)) (by decide) (backOf (W := 0) (rm28 l Z a0 hw [] (0 : Int64) h0 n0 Z0 (by decide)) hZ (ow hw 182 rfl) (ow hw 112 rfl) (by decide) (by decide)) (g := (mkF m 6 #[.val (.long (0 : Int64)), .second, .val (.long (1000000000 : Int64)), .second, .val (.long (0 : Int64)), .second, .unset, .unset, .unset, .unset] [(.long (0 : Int64))])) rfl (by rw [hml]; rfl) (argsL := [(.long (0 : Int64))]) (rest := []) (lenOf pd_20 rfl) rfl (by show 2 * 0 + _ ≤ _; exact Nat.le_of_eq rfl) (hb hby d27_6) (fun _ _ => ⟨rfl, e0, (by decide : 0 + 0 ≤ _), (by decide : 0 + 0 ≤ _)⟩)
  dsimp only [Pt.U, Pt.locs, Pt.cells, Pt.slots] at X1 l1 y1 z1 st1 hQ1
  subst l1 y1 z1
  obtain ⟨rfl, N1q, e1⟩ := hQ1
  have N1 := Fr.app N0 N1q
  obtain ⟨_, _, ⟨T2, L2, k2, n2⟩, -, X2, ⟨Lc2, hQ2, l2, y2, z2⟩, st2⟩ := Jvm.LawKit.callS X1 hx (y := nm_28) hown (mvT hZ (ow hw 180 rfl)) (mvT hZ (ow hw 181 rfl)) (mvT hZ (ow hw 112 rfl)) (mvT hZ (ow hw 182 rfl)) (by decide) (backOf (W := 0) (rm28 l Z a0 hw [] (1000000000 : Int64) h0 n0 Z0 (by decide)) hZ (ow hw 182 rfl) (ow hw 112 rfl) (by decide) (by decide)) (g := (mkF m 12 #[.val (.long (0 : Int64)), .second, .val (.long (1000000000 : Int64)), .second, .val (.long (0 : Int64)), .second, .val (.long (0 : Int64)), .second, .unset, .unset] [(.long (1000000000 : Int64))])) rfl (by rw [hml]; rfl) (argsL := [(.long (1000000000 : Int64))]) (rest := []) (lenOf pd_20 rfl) rfl (by show 2 * 0 + _ ≤ _; exact Nat.le_of_eq rfl) (hb hby d27_12) (fun _ _ => ⟨rfl, e1, (by decide : 0 + 0 ≤ _), (by decide : 0 + 0 ≤ _)⟩)
  dsimp only [Pt.U, Pt.locs, Pt.cells, Pt.slots] at X2 l2 y2 z2 st2 hQ2
  subst l2 y2 z2
  obtain ⟨rfl, N2q, e2⟩ := hQ2
  have N2 := Fr.app N1 N2q
  obtain ⟨fsq, hr, hrun, hended, hW, hsame⟩ := X2.leave (v := some (.long (0 : Int64))) (fun h => by rw [Bd.returns] at h; cases h)
  refine ⟨_, _, pre0 _ ?_, hrun, hended, _, _, rfl, ?_, ⟨_, rfl⟩, hW, hsame.mono (by decide) (by decide)⟩
  · show Steps p.tables e below (s₁.setTop (mkF m 0 #[.val (.long (0 : Int64)), .second, .val (.long (1000000000 : Int64)), .second, .unset, .unset, .unset, .unset, .unset, .unset] [])) _
    refine XS.lloadN X0.here hx rfl (hb hby d27_0) rfl ?_
    refine XS.lloadN X0.here hx rfl (hb hby d27_1) rfl ?_
    refine XS.lmul X0.here hx rfl (hb hby d27_2) rfl ?_
    show Steps p.tables e below (s₁.setTop (mkF m 3 #[.val (.long (0 : Int64)), .second, .val (.long (1000000000 : Int64)), .second, .unset, .unset, .unset, .unset, .unset, .unset] [(.long ((0 : Int64) * (1000000000 : Int64)))])) _
    rw [own_m0]
    refine XS.lstore X0.here hx rfl (hb hby d27_3) rfl (l' := #[.val (.long (0 : Int64)), .second, .val (.long (1000000000 : Int64)), .second, .val (.long (0 : Int64)), .second, .unset, .unset, .unset, .unset]) rfl ?_
    refine XS.lloadN X0.here hx rfl (hb hby d27_5) rfl ?_
    refine st1 _ ?_
    show Steps p.tables e below (T1.setTop (mkF m 9 #[.val (.long (0 : Int64)), .second, .val (.long (1000000000 : Int64)), .second, .val (.long (0 : Int64)), .second, .unset, .unset, .unset, .unset] [(.long (0 : Int64))])) _
    refine XS.lstore X1.here hx rfl (hb hby d27_9) rfl (l' := #[.val (.long (0 : Int64)), .second, .val (.long (1000000000 : Int64)), .second, .val (.long (0 : Int64)), .second, .val (.long (0 : Int64)), .second, .unset, .unset]) rfl ?_
    refine XS.lloadN X1.here hx rfl (hb hby d27_11) rfl ?_
    refine st2 _ ?_
    show Steps p.tables e below (T2.setTop (mkF m 15 #[.val (.long (0 : Int64)), .second, .val (.long (1000000000 : Int64)), .second, .val (.long (0 : Int64)), .second, .val (.long (0 : Int64)), .second, .unset, .unset] [(.long (1000000000 : Int64))])) _
    refine XS.lstore X2.here hx rfl (hb hby d27_15) rfl (l' := #[.val (.long (0 : Int64)), .second, .val (.long (1000000000 : Int64)), .second, .val (.long (0 : Int64)), .second, .val (.long (0 : Int64)), .second, .val (.long (1000000000 : Int64)), .second]) rfl ?_
    refine XS.lload X2.here hx rfl (hb hby d27_17) rfl ?_
    refine XS.lload X2.here hx rfl (hb hby d27_19) rfl ?_
    show Steps p.tables e below (T2.setTop (mkF m 21 #[.val (.long (0 : Int64)), .second, .val (.long (1000000000 : Int64)), .second, .val (.long (0 : Int64)), .second, .val (.long (0 : Int64)), .second, .val (.long (1000000000 : Int64)), .second] [(.long (1000000000 : Int64)), (.long (0 : Int64))])) _
    refine XS.lor X2.here hx rfl (hb hby d27_21) rfl ?_
    refine XS.bipush X2.here hx rfl (hb hby d27_22) ?_
    refine XS.lushr X2.here hx rfl (hb hby d27_24) rfl ?_
    show Steps p.tables e below (T2.setTop (mkF m 25 #[.val (.long (0 : Int64)), .second, .val (.long (1000000000 : Int64)), .second, .val (.long (0 : Int64)), .second, .val (.long (0 : Int64)), .second, .val (.long (1000000000 : Int64)), .second] [(.long ((((0 : Int64) ||| (1000000000 : Int64)).toUInt64 >>> ((31 : Int32) &&& 0x3f).toInt64.toUInt64).toInt64))])) _
    refine XS.lconst X2.here hx rfl (hb hby d27_25) ?_
    refine XS.lcmp X2.here hx rfl (hb hby d27_26) rfl ?_
    refine XS.ifYes X2.here hx rfl (pc0 := 27) (pc' := 71) rfl (hb hby d27_27) rfl ((if0 _ _).trans (teq ((lw_eq _ _).mpr ((by decide) : ((((0 : Int64) ||| (1000000000 : Int64)).toUInt64 >>> ((31 : Int32) &&& 0x3f).toInt64.toUInt64).toInt64) = (0 : Int64)))).1) (by decide) (by decide) ?_
    show Steps p.tables e below (T2.setTop (mkF m 71 #[.val (.long (0 : Int64)), .second, .val (.long (1000000000 : Int64)), .second, .val (.long (0 : Int64)), .second, .val (.long (0 : Int64)), .second, .val (.long (1000000000 : Int64)), .second] [])) _
    refine XS.lload X2.here hx rfl (hb hby d27_71) rfl ?_
    show Steps p.tables e below (T2.setTop (mkF m 73 #[.val (.long (0 : Int64)), .second, .val (.long (1000000000 : Int64)), .second, .val (.long (0 : Int64)), .second, .val (.long (0 : Int64)), .second, .val (.long (1000000000 : Int64)), .second] [(.long (0 : Int64))])) _
    exact retOut X2 hx Bd.returns rfl (Or.inr (Or.inl ⟨rfl, rfl, _, rfl⟩)) (hb hby d27_73) hr
  · show QP (some (.long (0 : Int64))) h0 n0 _ T2.heap _
    rw [e2]
    exact ⟨rfl, N2, rfl⟩
theorem d29_0 : decode jdk_29_method_25_code 0 = .ok (.lload_n 0, 1) := by decide +kernel
theorem d29_1 : decode jdk_29_method_25_code 1 = .ok (.lload_n 2, 1) := by decide +kernel
theorem d29_2 : decode jdk_29_method_25_code 2 = .ok (.ladd, 1) := by decide +kernel
theorem d29_3 : decode jdk_29_method_25_code 3 = .ok (.lstore 4, 2) := by decide +kernel
theorem d29_5 : decode jdk_29_method_25_code 5 = .ok (.lload_n 0, 1) := by decide +kernel
theorem d29_6 : decode jdk_29_method_25_code 6 = .ok (.lload 4, 2) := by decide +kernel
theorem d29_8 : decode jdk_29_method_25_code 8 = .ok (.lxor, 1) := by decide +kernel
theorem d29_9 : decode jdk_29_method_25_code 9 = .ok (.lload_n 2, 1) := by decide +kernel
theorem d29_10 : decode jdk_29_method_25_code 10 = .ok (.lload 4, 2) := by decide +kernel
theorem d29_12 : decode jdk_29_method_25_code 12 = .ok (.lxor, 1) := by decide +kernel
theorem d29_13 : decode jdk_29_method_25_code 13 = .ok (.land, 1) := by decide +kernel
theorem d29_14 : decode jdk_29_method_25_code 14 = .ok (.lconst 0, 1) := by decide +kernel
theorem d29_15 : decode jdk_29_method_25_code 15 = .ok (.lcmp, 1) := by decide +kernel
theorem d29_16 : decode jdk_29_method_25_code 16 = .ok (.ifCond .ge 13, 3) := by decide +kernel
theorem d29_29 : decode jdk_29_method_25_code 29 = .ok (.lload 4, 2) := by decide +kernel
theorem d29_31 : decode jdk_29_method_25_code 31 = .ok (.lreturn, 1) := by decide +kernel
theorem ef_29 (m : MethodId) (x0 : Int64) (x1 : Int64) : entryFrame m #[(.long x0), (.long x1)] 6 = mkF m 0 #[.val (.long x0), .second, .val (.long x1), .second, .unset, .unset] [] := by first | (simp [entryFrame, mkF, argsToLocals, Value.category]; done) | rfl
abbrev nm_29 : MethodName := ⟨"java/lang/Math", "addExact", "(JJ)J"⟩
set_option maxRecDepth 65536 in
set_option maxHeartbeats 40000000 in
theorem rm29 (l : Launch) (Z : State) (a0 : Array Value) (hw : ∀ d ∈ tables_1, d.before a0 Z = true) (ws : List Jvm.Cond)  (h0 : Heap) (n0 : Nat) (Z0 : n0 ≤ h0.size) :
    MetFree l nm_29 (head1 (Jvm.Cond.code nm_29 jdk_29_method_25_code 6 (some .long) :: ws) rr0) (fun aa zU => aa = #[(.long (0 : Int64)), (.long (1 : Int64))] ∧ Z.Warmed39 zU.vm ∧ zU.heap = h0) (fun _ _ _ _ _ => True) (fun _ zU zo zU' => ∃ zv zL, zo = .returned zv ∧ QP (some (.long (1 : Int64))) h0 n0 zv zU'.heap zL ∧ FrameEnd zU zo zU' zL rr0.cells rr0.slots) := by
  refine MetFree.of_bodySF (Jvm.Free.JP.mathPlain rfl (by decide +kernel)) hisR ?_
  intro p e s m args below meth c s₁ Bd hml0 hP hK
  obtain ⟨rfl, hZ, hh⟩ := hP
  have hx := Bd.exec
  have hby := Bd.bytes
  have hml : c.maxLocals = 6 := hml0
  have hown : s.vm.findClass "java/lang/Math" = some m.cls := findClass_of_methodNamed Bd.named
  have hnm := (name_of_methodNamed Bd.named Bd.method).1
  have X0 : Stand p l e rr0 s m #[(.long (0 : Int64)), (.long (1 : Int64))] below meth c s₁ [] 0 0 := Stand.of_body Bd
  have e0 : s₁.heap = h0 := by rw [← hh, Bd.state]; rfl
  have N0 := Fr.nil n0
  have pre0 : ∀ t, Steps p.tables e below (s₁.setTop (mkF m 0 #[.val (.long (0 : Int64)), .second, .val (.long (1 : Int64)), .second, .unset, .unset] [])) t → Steps p.tables e below (s₁.setTop (entryFrame m #[(.long (0 : Int64)), (.long (1 : Int64))] 6)) t := fun t k => castTop (ef_29 m (0 : Int64) (1 : Int64)) k
  obtain ⟨fsq, hr, hrun, hended, hW, hsame⟩ := X0.leave (v := some (.long (1 : Int64))) (fun h => by rw [Bd.returns] at h; cases h)
  refine ⟨_, _, pre0 _ ?_, hrun, hended, _, _, rfl, ?_, ⟨_, rfl⟩, hW, hsame.mono (by decide) (by decide)⟩
  · show Steps p.tables e below (s₁.setTop (mkF m 0 #[.val (.long (0 : Int64)), .second, .val (.long (1 : Int64)), .second, .unset, .unset] [])) _
    refine XS.lloadN X0.here hx rfl (hb hby d29_0) rfl ?_
    refine XS.lloadN X0.here hx rfl (hb hby d29_1) rfl ?_
    refine XS.ladd X0.here hx rfl (hb hby d29_2) rfl ?_
    show Steps p.tables e below (s₁.setTop (mkF m 3 #[.val (.long (0 : Int64)), .second, .val (.long (1 : Int64)), .second, .unset, .unset] [(.long ((0 : Int64) + (1 : Int64)))])) _
    rw [own_a1]
    refine XS.lstore X0.here hx rfl (hb hby d29_3) rfl (l' := #[.val (.long (0 : Int64)), .second, .val (.long (1 : Int64)), .second, .val (.long (1 : Int64)), .second]) rfl ?_
    refine XS.lloadN X0.here hx rfl (hb hby d29_5) rfl ?_
    refine XS.lload X0.here hx rfl (hb hby d29_6) rfl ?_
    show Steps p.tables e below (s₁.setTop (mkF m 8 #[.val (.long (0 : Int64)), .second, .val (.long (1 : Int64)), .second, .val (.long (1 : Int64)), .second] [(.long (1 : Int64)), (.long (0 : Int64))])) _
    refine XS.lxor X0.here hx rfl (hb hby d29_8) rfl ?_
    refine XS.lloadN X0.here hx rfl (hb hby d29_9) rfl ?_
    refine XS.lload X0.here hx rfl (hb hby d29_10) rfl ?_
    show Steps p.tables e below (s₁.setTop (mkF m 12 #[.val (.long (0 : Int64)), .second, .val (.long (1 : Int64)), .second, .val (.long (1 : Int64)), .second] [(.long (1 : Int64)), (.long (1 : Int64)), (.long ((0 : Int64) ^^^ (1 : Int64)))])) _
    refine XS.lxor X0.here hx rfl (hb hby d29_12) rfl ?_
    refine XS.land X0.here hx rfl (hb hby d29_13) rfl ?_
    refine XS.lconst X0.here hx rfl (hb hby d29_14) ?_
    show Steps p.tables e below (s₁.setTop (mkF m 15 #[.val (.long (0 : Int64)), .second, .val (.long (1 : Int64)), .second, .val (.long (1 : Int64)), .second] [(.long (0 : Int64)), (.long (((0 : Int64) ^^^ (1 : Int64)) &&& ((1 : Int64) ^^^ (1 : Int64))))])) _
    refine XS.lcmp X0.here hx rfl (hb hby d29_15) rfl ?_
    refine XS.ifYes X0.here hx rfl (pc0 := 16) (pc' := 29) rfl (hb hby d29_16) rfl ((if0 _ _).trans (flt (fun z => ((by decide) : ¬ ((((0 : Int64) ^^^ (1 : Int64)) &&& ((1 : Int64) ^^^ (1 : Int64))) < (0 : Int64))) ((lw_lt _ _).mp z))).2.1) (by decide) (by decide) ?_
    refine XS.lload X0.here hx rfl (hb hby d29_29) rfl ?_
    show Steps p.tables e below (s₁.setTop (mkF m 31 #[.val (.long (0 : Int64)), .second, .val (.long (1 : Int64)), .second, .val (.long (1 : Int64)), .second] [(.long (1 : Int64))])) _
    exact retOut X0 hx Bd.returns rfl (Or.inr (Or.inl ⟨rfl, rfl, _, rfl⟩)) (hb hby d29_31) hr
  · show QP (some (.long (1 : Int64))) h0 n0 _ s₁.heap _
    rw [e0]
    exact ⟨rfl, N0, rfl⟩
abbrev rr_2_0_0_34 : Room := { frames := 2, cells := 0, slots := 0, locals := 34 }
theorem d26_0 : decode jdk_2316_method_58_code 0 = .ok (.aload_n 0, 1) := by decide +kernel
theorem d26_1 : decode jdk_2316_method_58_code 1 = .ok (.getfield 221, 3) := by decide +kernel
theorem d26_4 : decode jdk_2316_method_58_code 4 = .ok (.lstore_n 1, 1) := by decide +kernel
theorem d26_5 : decode jdk_2316_method_58_code 5 = .ok (.aload_n 0, 1) := by decide +kernel
theorem d26_6 : decode jdk_2316_method_58_code 6 = .ok (.getfield 224, 3) := by decide +kernel
theorem d26_9 : decode jdk_2316_method_58_code 9 = .ok (.i2l, 1) := by decide +kernel
theorem d26_10 : decode jdk_2316_method_58_code 10 = .ok (.lstore_n 3, 1) := by decide +kernel
theorem d26_11 : decode jdk_2316_method_58_code 11 = .ok (.lload_n 1, 1) := by decide +kernel
theorem d26_12 : decode jdk_2316_method_58_code 12 = .ok (.lconst 0, 1) := by decide +kernel
theorem d26_13 : decode jdk_2316_method_58_code 13 = .ok (.lcmp, 1) := by decide +kernel
theorem d26_14 : decode jdk_2316_method_58_code 14 = .ok (.ifCond .ge 13, 3) := by decide +kernel
theorem d26_27 : decode jdk_2316_method_58_code 27 = .ok (.lload_n 1, 1) := by decide +kernel
theorem d26_28 : decode jdk_2316_method_58_code 28 = .ok (.ldc2_w 16, 3) := by decide +kernel
theorem pd_19 : parseMethodDescriptor "(JJ)J" = some ⟨[.long, .long], some .long⟩ := by decide +kernel
theorem d26_31 : decode jdk_2316_method_58_code 31 = .ok (.invokestatic 289, 3) := by decide +kernel
theorem d26_34 : decode jdk_2316_method_58_code 34 = .ok (.lstore 5, 2) := by decide +kernel
theorem d26_36 : decode jdk_2316_method_58_code 36 = .ok (.lload 5, 2) := by decide +kernel
theorem d26_38 : decode jdk_2316_method_58_code 38 = .ok (.lload_n 3, 1) := by decide +kernel
theorem d26_39 : decode jdk_2316_method_58_code 39 = .ok (.invokestatic 22, 3) := by decide +kernel
theorem d26_42 : decode jdk_2316_method_58_code 42 = .ok (.lstore 5, 2) := by decide +kernel
theorem d26_44 : decode jdk_2316_method_58_code 44 = .ok (.lload 5, 2) := by decide +kernel
theorem d26_46 : decode jdk_2316_method_58_code 46 = .ok (.lreturn, 1) := by decide +kernel
theorem ef_26 (m : MethodId) (x0 : Addr) : entryFrame m #[(.ref x0)] 7 = mkF m 0 #[.val (.ref x0), .unset, .unset, .unset, .unset, .unset, .unset] [] := by first | (simp [entryFrame, mkF, argsToLocals, Value.category]; done) | rfl
abbrev nm_26 : MethodName := ⟨"java/time/Duration", "toNanos", "()J"⟩
set_option maxRecDepth 65536 in
set_option maxHeartbeats 40000000 in
theorem rm26 (l : Launch) (Z : State) (a0 : Array Value) (hw : ∀ d ∈ tables_1, d.before a0 Z = true) (ws : List Jvm.Cond) (a1 : Addr) (h0 : Heap) (n0 : Nat) (Z0 : n0 ≤ h0.size) (FS : Fld Z h0 a1 "java/time/Duration" "seconds" "J" (.long (0 : Int64))) (FN : Fld Z h0 a1 "java/time/Duration" "nanos" "I" (.int (1 : Int32))) :
    MetFree l nm_26 (head1 (Jvm.Cond.code nm_26 jdk_2316_method_58_code 7 (some .long) :: ws) rr_2_0_0_34) (fun aa zU => aa = #[(.ref a1)] ∧ Z.Warmed39 zU.vm ∧ zU.heap = h0) (fun _ _ _ _ _ => True) (fun _ zU zo zU' => ∃ zv zL, zo = .returned zv ∧ QP (some (.long (1 : Int64))) h0 n0 zv zU'.heap zL ∧ FrameEnd zU zo zU' zL rr_2_0_0_34.cells rr_2_0_0_34.slots) := by
  refine MetFree.of_bodySF (plainFor_of_name pn_java_time_Duration) hisR ?_
  intro p e s m args below meth c s₁ Bd hml0 hP hK
  obtain ⟨rfl, hZ, hh⟩ := hP
  have hx := Bd.exec
  have hby := Bd.bytes
  have hml : c.maxLocals = 7 := hml0
  have hown : s.vm.findClass "java/time/Duration" = some m.cls := findClass_of_methodNamed Bd.named
  have hnm := (name_of_methodNamed Bd.named Bd.method).1
  have X0 : Stand p l e rr_2_0_0_34 s m #[(.ref a1)] below meth c s₁ [] 0 0 := Stand.of_body Bd
  have e0 : s₁.heap = h0 := by rw [← hh, Bd.state]; rfl
  have N0 := Fr.nil n0
  have pre0 : ∀ t, Steps p.tables e below (s₁.setTop (mkF m 0 #[.val (.ref a1), .unset, .unset, .unset, .unset, .unset, .unset] [])) t → Steps p.tables e below (s₁.setTop (entryFrame m #[(.ref a1)] 7)) t := fun t k => castTop (ef_26 m a1) k
  obtain ⟨T1, X1, e1, st1⟩ := getF X0 hx hZ hown (host := "") (Or.inl (ow hw 45 rfl)) Via.refl e0 FS (g := (mkF m 1 #[.val (.ref a1), .unset, .unset, .unset, .unset, .unset, .unset] [(.ref a1)])) rfl rfl (hb hby d26_1)
  obtain ⟨T2, X2, e2, st2⟩ := getF X1 hx hZ hown (host := "") (Or.inl (ow hw 47 rfl)) Via.refl e1 FN (g := (mkF m 6 #[.val (.ref a1), .val (.long (0 : Int64)), .second, .unset, .unset, .unset, .unset] [(.ref a1)])) rfl rfl (hb hby d26_6)
  obtain ⟨_, _, ⟨T3, L3, k3, n3⟩, -, X3, ⟨Lc3, hQ3, l3, y3, z3⟩, st3⟩ := Jvm.LawKit.callS X2 hx (y := nm_27) hown (mvT hZ (ow hw 177 rfl)) (mvT hZ (ow hw 178 rfl)) (mvT hZ (ow hw 112 rfl)) (mvT hZ (ow hw 179 rfl)) (by decide) (backOf (W := 0) (rm27 l Z a0 hw [] h0 n0 Z0) hZ (ow hw 179 rfl) (ow hw 112 rfl) (by decide) (by decide)) (g := (mkF m 31 #[.val (.ref a1), .val (.long (0 : Int64)), .second, .val (.long (1 : Int64)), .second, .unset, .unset] [(.long (1000000000 : Int64)), (.long (0 : Int64))])) rfl (by rw [hml]; rfl) (argsL := [(.long (0 : Int64)), (.long (1000000000 : Int64))]) (rest := []) (lenOf pd_19 rfl) rfl (by show 2 * 0 + _ ≤ _; exact Nat.le_of_eq rfl) (hb hby d26_31) (fun _ _ => ⟨rfl, e2, (by decide : 0 + 0 ≤ _), (by decide : 0 + 0 ≤ _)⟩)
  dsimp only [Pt.U, Pt.locs, Pt.cells, Pt.slots] at X3 l3 y3 z3 st3 hQ3
  subst l3 y3 z3
  obtain ⟨rfl, N3q, e3⟩ := hQ3
  have N3 := Fr.app N0 N3q
  obtain ⟨_, _, ⟨T4, L4, k4, n4⟩, -, X4, ⟨Lc4, hQ4, l4, y4, z4⟩, st4⟩ := Jvm.LawKit.callS X3 hx (y := nm_29) hown (mvT hZ (ow hw 183 rfl)) (mvT hZ (ow hw 184 rfl)) (mvT hZ (ow hw 112 rfl)) (mvT hZ (ow hw 185 rfl)) (by decide) (backOf (W := 0) (rm29 l Z a0 hw [] h0 n0 Z0) hZ (ow hw 185 rfl) (ow hw 112 rfl) (by decide) (by decide)) (g := (mkF m 39 #[.val (.ref a1), .val (.long (0 : Int64)), .second, .val (.long (1 : Int64)), .second, .val (.long (0 : Int64)), .second] [(.long (1 : Int64)), (.long (0 : Int64))])) rfl (by rw [hml]; rfl) (argsL := [(.long (0 : Int64)), (.long (1 : Int64))]) (rest := []) (lenOf pd_19 rfl) rfl (by show 2 * 0 + _ ≤ _; exact Nat.le_of_eq rfl) (hb hby d26_39) (fun _ _ => ⟨rfl, e3, (by decide : 0 + 0 ≤ _), (by decide : 0 + 0 ≤ _)⟩)
  dsimp only [Pt.U, Pt.locs, Pt.cells, Pt.slots] at X4 l4 y4 z4 st4 hQ4
  subst l4 y4 z4
  obtain ⟨rfl, N4q, e4⟩ := hQ4
  have N4 := Fr.app N3 N4q
  obtain ⟨fsq, hr, hrun, hended, hW, hsame⟩ := X4.leave (v := some (.long (1 : Int64))) (fun h => by rw [Bd.returns] at h; cases h)
  refine ⟨_, _, pre0 _ ?_, hrun, hended, _, _, rfl, ?_, ⟨_, rfl⟩, hW, hsame.mono (by decide) (by decide)⟩
  · show Steps p.tables e below (s₁.setTop (mkF m 0 #[.val (.ref a1), .unset, .unset, .unset, .unset, .unset, .unset] [])) _
    refine XS.aloadN X0.here hx rfl (hb hby d26_0) rfl rfl ?_
    refine st1 _ ?_
    refine XS.lstoreN X1.here hx rfl (hb hby d26_4) rfl (l' := #[.val (.ref a1), .val (.long (0 : Int64)), .second, .unset, .unset, .unset, .unset]) rfl ?_
    show Steps p.tables e below (T1.setTop (mkF m 5 #[.val (.ref a1), .val (.long (0 : Int64)), .second, .unset, .unset, .unset, .unset] [])) _
    refine XS.aloadN X1.here hx rfl (hb hby d26_5) rfl rfl ?_
    refine st2 _ ?_
    refine XS.i2l X2.here hx rfl (hb hby d26_9) rfl ?_
    show Steps p.tables e below (T2.setTop (mkF m 10 #[.val (.ref a1), .val (.long (0 : Int64)), .second, .unset, .unset, .unset, .unset] [(.long ((1 : Int32).toInt64))])) _
    rw [own_i1]
    refine XS.lstoreN X2.here hx rfl (hb hby d26_10) rfl (l' := #[.val (.ref a1), .val (.long (0 : Int64)), .second, .val (.long (1 : Int64)), .second, .unset, .unset]) rfl ?_
    refine XS.lloadN X2.here hx rfl (hb hby d26_11) rfl ?_
    refine XS.lconst X2.here hx rfl (hb hby d26_12) ?_
    show Steps p.tables e below (T2.setTop (mkF m 13 #[.val (.ref a1), .val (.long (0 : Int64)), .second, .val (.long (1 : Int64)), .second, .unset, .unset] [(.long (0 : Int64)), (.long (0 : Int64))])) _
    refine XS.lcmp X2.here hx rfl (hb hby d26_13) rfl ?_
    refine XS.ifYes X2.here hx rfl (pc0 := 14) (pc' := 27) rfl (hb hby d26_14) rfl ((if0 _ _).trans (flt (fun z => ((by decide) : ¬ ((0 : Int64) < (0 : Int64))) ((lw_lt _ _).mp z))).2.1) (by decide) (by decide) ?_
    refine XS.lloadN X2.here hx rfl (hb hby d26_27) rfl ?_
    show Steps p.tables e below (T2.setTop (mkF m 28 #[.val (.ref a1), .val (.long (0 : Int64)), .second, .val (.long (1 : Int64)), .second, .unset, .unset] [(.long (0 : Int64))])) _
    refine X2.ldc2Long hx hown (mvT hZ (ow hw 34 rfl)) (g := (mkF m 28 #[.val (.ref a1), .val (.long (0 : Int64)), .second, .val (.long (1 : Int64)), .second, .unset, .unset] [(.long (0 : Int64))])) rfl (hb hby d26_28) _ ?_
    refine st3 _ ?_
    refine XS.lstore X3.here hx rfl (hb hby d26_34) rfl (l' := #[.val (.ref a1), .val (.long (0 : Int64)), .second, .val (.long (1 : Int64)), .second, .val (.long (0 : Int64)), .second]) rfl ?_
    show Steps p.tables e below (T3.setTop (mkF m 36 #[.val (.ref a1), .val (.long (0 : Int64)), .second, .val (.long (1 : Int64)), .second, .val (.long (0 : Int64)), .second] [])) _
    refine XS.lload X3.here hx rfl (hb hby d26_36) rfl ?_
    refine XS.lloadN X3.here hx rfl (hb hby d26_38) rfl ?_
    refine st4 _ ?_
    show Steps p.tables e below (T4.setTop (mkF m 42 #[.val (.ref a1), .val (.long (0 : Int64)), .second, .val (.long (1 : Int64)), .second, .val (.long (0 : Int64)), .second] [(.long (1 : Int64))])) _
    refine XS.lstore X4.here hx rfl (hb hby d26_42) rfl (l' := #[.val (.ref a1), .val (.long (0 : Int64)), .second, .val (.long (1 : Int64)), .second, .val (.long (1 : Int64)), .second]) rfl ?_
    refine XS.lload X4.here hx rfl (hb hby d26_44) rfl ?_
    show Steps p.tables e below (T4.setTop (mkF m 46 #[.val (.ref a1), .val (.long (0 : Int64)), .second, .val (.long (1 : Int64)), .second, .val (.long (1 : Int64)), .second] [(.long (1 : Int64))])) _
    exact retOut X4 hx Bd.returns rfl (Or.inr (Or.inl ⟨rfl, rfl, _, rfl⟩)) (hb hby d26_46) hr
  · show QP (some (.long (1 : Int64))) h0 n0 _ T4.heap _
    rw [e4]
    exact ⟨rfl, N4, rfl⟩
theorem d30_0 : decode jdk_29_method_69_code 0 = .ok (.iload_n 0, 1) := by decide +kernel
theorem d30_1 : decode jdk_29_method_69_code 1 = .ok (.iload_n 1, 1) := by decide +kernel
theorem d30_2 : decode jdk_29_method_69_code 2 = .ok (.if_icmp .gt 7, 3) := by decide +kernel
theorem d30_9 : decode jdk_29_method_69_code 9 = .ok (.iload_n 1, 1) := by decide +kernel
theorem d30_10 : decode jdk_29_method_69_code 10 = .ok (.ireturn, 1) := by decide +kernel
theorem ef_30 (m : MethodId) (x0 : Int32) (x1 : Int32) : entryFrame m #[(.int x0), (.int x1)] 2 = mkF m 0 #[.val (.int x0), .val (.int x1)] [] := by first | (simp [entryFrame, mkF, argsToLocals, Value.category]; done) | rfl
abbrev nm_30 : MethodName := ⟨"java/lang/Math", "min", "(II)I"⟩
set_option maxRecDepth 65536 in
set_option maxHeartbeats 40000000 in
theorem rm30_t (l : Launch) (Z : State) (a0 : Array Value) (hw : ∀ d ∈ tables_1, d.before a0 Z = true) (ws : List Jvm.Cond) (x : Int32) (y : Int32) (h0 : Heap) (n0 : Nat) (Z0 : n0 ≤ h0.size) (hc2 : y < x) :
    MetFree l nm_30 (head1 (Jvm.Cond.code nm_30 jdk_29_method_69_code 2 (some .int) :: ws) rr0) (fun aa zU => aa = #[(.int x), (.int y)] ∧ Z.Warmed39 zU.vm ∧ zU.heap = h0) (fun _ _ _ _ _ => True) (fun _ zU zo zU' => ∃ zv zL, zo = .returned zv ∧ QP (some (.int y)) h0 n0 zv zU'.heap zL ∧ FrameEnd zU zo zU' zL rr0.cells rr0.slots) := by
  refine MetFree.of_bodySF (Jvm.Free.JP.mathPlain rfl (by decide +kernel)) hisR ?_
  intro p e s m args below meth c s₁ Bd hml0 hP hK
  obtain ⟨rfl, hZ, hh⟩ := hP
  have hx := Bd.exec
  have hby := Bd.bytes
  have hml : c.maxLocals = 2 := hml0
  have hown : s.vm.findClass "java/lang/Math" = some m.cls := findClass_of_methodNamed Bd.named
  have hnm := (name_of_methodNamed Bd.named Bd.method).1
  have X0 : Stand p l e rr0 s m #[(.int x), (.int y)] below meth c s₁ [] 0 0 := Stand.of_body Bd
  have e0 : s₁.heap = h0 := by rw [← hh, Bd.state]; rfl
  have N0 := Fr.nil n0
  have pre0 : ∀ t, Steps p.tables e below (s₁.setTop (mkF m 0 #[.val (.int x), .val (.int y)] [])) t → Steps p.tables e below (s₁.setTop (entryFrame m #[(.int x), (.int y)] 2)) t := fun t k => castTop (ef_30 m x y) k
  obtain ⟨fsq, hr, hrun, hended, hW, hsame⟩ := X0.leave (v := some (.int y)) (fun h => by rw [Bd.returns] at h; cases h)
  refine ⟨_, _, pre0 _ ?_, hrun, hended, _, _, rfl, ?_, ⟨_, rfl⟩, hW, hsame.mono (by decide) (by decide)⟩
  · show Steps p.tables e below (s₁.setTop (mkF m 0 #[.val (.int x), .val (.int y)] [])) _
    refine XS.iloadN X0.here hx rfl (hb hby d30_0) rfl ?_
    refine XS.iloadN X0.here hx rfl (hb hby d30_1) rfl ?_
    refine XS.icmpYes X0.here hx rfl (pc0 := 2) (pc' := 9) rfl (hb hby d30_2) rfl (tlt hc2).2.2.1 (by decide) (by decide) ?_
    show Steps p.tables e below (s₁.setTop (mkF m 9 #[.val (.int x), .val (.int y)] [])) _
    refine XS.iloadN X0.here hx rfl (hb hby d30_9) rfl ?_
    show Steps p.tables e below (s₁.setTop (mkF m 10 #[.val (.int x), .val (.int y)] [(.int y)])) _
    exact retI X0 hx Bd.returns (hb hby d30_10) hr
  · show QP (some (.int y)) h0 n0 _ s₁.heap _
    rw [e0]
    exact ⟨rfl, N0, rfl⟩
theorem d30_5 : decode jdk_29_method_69_code 5 = .ok (.iload_n 0, 1) := by decide +kernel
theorem d30_6 : decode jdk_29_method_69_code 6 = .ok (.goto 4, 3) := by decide +kernel
set_option maxRecDepth 65536 in
set_option maxHeartbeats 40000000 in
theorem rm30_f (l : Launch) (Z : State) (a0 : Array Value) (hw : ∀ d ∈ tables_1, d.before a0 Z = true) (ws : List Jvm.Cond) (x : Int32) (y : Int32) (h0 : Heap) (n0 : Nat) (Z0 : n0 ≤ h0.size) (hc2 : ¬ (y < x)) :
    MetFree l nm_30 (head1 (Jvm.Cond.code nm_30 jdk_29_method_69_code 2 (some .int) :: ws) rr0) (fun aa zU => aa = #[(.int x), (.int y)] ∧ Z.Warmed39 zU.vm ∧ zU.heap = h0) (fun _ _ _ _ _ => True) (fun _ zU zo zU' => ∃ zv zL, zo = .returned zv ∧ QP (some (.int x)) h0 n0 zv zU'.heap zL ∧ FrameEnd zU zo zU' zL rr0.cells rr0.slots) := by
  refine MetFree.of_bodySF (Jvm.Free.JP.mathPlain rfl (by decide +kernel)) hisR ?_
  intro p e s m args below meth c s₁ Bd hml0 hP hK
  obtain ⟨rfl, hZ, hh⟩ := hP
  have hx := Bd.exec
  have hby := Bd.bytes
  have hml : c.maxLocals = 2 := hml0
  have hown : s.vm.findClass "java/lang/Math" = some m.cls := findClass_of_methodNamed Bd.named
  have hnm := (name_of_methodNamed Bd.named Bd.method).1
  have X0 : Stand p l e rr0 s m #[(.int x), (.int y)] below meth c s₁ [] 0 0 := Stand.of_body Bd
  have e0 : s₁.heap = h0 := by rw [← hh, Bd.state]; rfl
  have N0 := Fr.nil n0
  have pre0 : ∀ t, Steps p.tables e below (s₁.setTop (mkF m 0 #[.val (.int x), .val (.int y)] [])) t → Steps p.tables e below (s₁.setTop (entryFrame m #[(.int x), (.int y)] 2)) t := fun t k => castTop (ef_30 m x y) k
  obtain ⟨fsq, hr, hrun, hended, hW, hsame⟩ := X0.leave (v := some (.int x)) (fun h => by rw [Bd.returns] at h; cases h)
  refine ⟨_, _, pre0 _ ?_, hrun, hended, _, _, rfl, ?_, ⟨_, rfl⟩, hW, hsame.mono (by decide) (by decide)⟩
  · show Steps p.tables e below (s₁.setTop (mkF m 0 #[.val (.int x), .val (.int y)] [])) _
    refine XS.iloadN X0.here hx rfl (hb hby d30_0) rfl ?_
    refine XS.iloadN X0.here hx rfl (hb hby d30_1) rfl ?_
    refine XS.icmpNo X0.here hx rfl (hb hby d30_2) rfl (flt hc2).2.2.1 ?_
    show Steps p.tables e below (s₁.setTop (mkF m 5 #[.val (.int x), .val (.int y)] [])) _
    refine XS.iloadN X0.here hx rfl (hb hby d30_5) rfl ?_
    refine XS.goto X0.here hx rfl (pc0 := 6) (pc' := 10) rfl (hb hby d30_6) (by decide) (by decide) ?_
    show Steps p.tables e below (s₁.setTop (mkF m 10 #[.val (.int x), .val (.int y)] [(.int x)])) _
    exact retI X0 hx Bd.returns (hb hby d30_10) hr
  · show QP (some (.int x)) h0 n0 _ s₁.heap _
    rw [e0]
    exact ⟨rfl, N0, rfl⟩
theorem d31_0 : decode jdk_29_method_66_code 0 = .ok (.lload_n 0, 1) := by decide +kernel
theorem d31_1 : decode jdk_29_method_66_code 1 = .ok (.lload_n 2, 1) := by decide +kernel
theorem d31_2 : decode jdk_29_method_66_code 2 = .ok (.lcmp, 1) := by decide +kernel
theorem d31_3 : decode jdk_29_method_66_code 3 = .ok (.ifCond .lt 7, 3) := by decide +kernel
theorem d31_10 : decode jdk_29_method_66_code 10 = .ok (.lload_n 2, 1) := by decide +kernel
theorem d31_11 : decode jdk_29_method_66_code 11 = .ok (.lreturn, 1) := by decide +kernel
theorem ef_31 (m : MethodId) (x0 : Int64) (x1 : Int64) : entryFrame m #[(.long x0), (.long x1)] 4 = mkF m 0 #[.val (.long x0), .second, .val (.long x1), .second] [] := by first | (simp [entryFrame, mkF, argsToLocals, Value.category]; done) | rfl
abbrev nm_31 : MethodName := ⟨"java/lang/Math", "max", "(JJ)J"⟩
set_option maxRecDepth 65536 in
set_option maxHeartbeats 40000000 in
theorem rm31 (l : Launch) (Z : State) (a0 : Array Value) (hw : ∀ d ∈ tables_1, d.before a0 Z = true) (ws : List Jvm.Cond)  (h0 : Heap) (n0 : Nat) (Z0 : n0 ≤ h0.size) :
    MetFree l nm_31 (head1 (Jvm.Cond.code nm_31 jdk_29_method_66_code 4 (some .long) :: ws) rr0) (fun aa zU => aa = #[(.long (0 : Int64)), (.long (1 : Int64))] ∧ Z.Warmed39 zU.vm ∧ zU.heap = h0) (fun _ _ _ _ _ => True) (fun _ zU zo zU' => ∃ zv zL, zo = .returned zv ∧ QP (some (.long (1 : Int64))) h0 n0 zv zU'.heap zL ∧ FrameEnd zU zo zU' zL rr0.cells rr0.slots) := by
  refine MetFree.of_bodySF (Jvm.Free.JP.mathPlain rfl (by decide +kernel)) hisR ?_
  intro p e s m args below meth c s₁ Bd hml0 hP hK
  obtain ⟨rfl, hZ, hh⟩ := hP
  have hx := Bd.exec
  have hby := Bd.bytes
  have hml : c.maxLocals = 4 := hml0
  have hown : s.vm.findClass "java/lang/Math" = some m.cls := findClass_of_methodNamed Bd.named
  have hnm := (name_of_methodNamed Bd.named Bd.method).1
  have X0 : Stand p l e rr0 s m #[(.long (0 : Int64)), (.long (1 : Int64))] below meth c s₁ [] 0 0 := Stand.of_body Bd
  have e0 : s₁.heap = h0 := by rw [← hh, Bd.state]; rfl
  have N0 := Fr.nil n0
  have pre0 : ∀ t, Steps p.tables e below (s₁.setTop (mkF m 0 #[.val (.long (0 : Int64)), .second, .val (.long (1 : Int64)), .second] [])) t → Steps p.tables e below (s₁.setTop (entryFrame m #[(.long (0 : Int64)), (.long (1 : Int64))] 4)) t := fun t k => castTop (ef_31 m (0 : Int64) (1 : Int64)) k
  obtain ⟨fsq, hr, hrun, hended, hW, hsame⟩ := X0.leave (v := some (.long (1 : Int64))) (fun h => by rw [Bd.returns] at h; cases h)
  refine ⟨_, _, pre0 _ ?_, hrun, hended, _, _, rfl, ?_, ⟨_, rfl⟩, hW, hsame.mono (by decide) (by decide)⟩
  · show Steps p.tables e below (s₁.setTop (mkF m 0 #[.val (.long (0 : Int64)), .second, .val (.long (1 : Int64)), .second] [])) _
    refine XS.lloadN X0.here hx rfl (hb hby d31_0) rfl ?_
    refine XS.lloadN X0.here hx rfl (hb hby d31_1) rfl ?_
    refine XS.lcmp X0.here hx rfl (hb hby d31_2) rfl ?_
    show Steps p.tables e below (s₁.setTop (mkF m 3 #[.val (.long (0 : Int64)), .second, .val (.long (1 : Int64)), .second] [(.int (lcmpW (0 : Int64) (1 : Int64)))])) _
    refine XS.ifYes X0.here hx rfl (pc0 := 3) (pc' := 10) rfl (hb hby d31_3) rfl ((if0 _ _).trans (tlt ((lw_lt _ _).mpr ((by decide) : (0 : Int64) < (1 : Int64)))).1) (by decide) (by decide) ?_
    refine XS.lloadN X0.here hx rfl (hb hby d31_10) rfl ?_
    show Steps p.tables e below (s₁.setTop (mkF m 11 #[.val (.long (0 : Int64)), .second, .val (.long (1 : Int64)), .second] [(.long (1 : Int64))])) _
    exact retOut X0 hx Bd.returns rfl (Or.inr (Or.inl ⟨rfl, rfl, _, rfl⟩)) (hb hby d31_11) hr
  · show QP (some (.long (1 : Int64))) h0 n0 _ s₁.heap _
    rw [e0]
    exact ⟨rfl, N0, rfl⟩
abbrev rr_3_2_2_54 : Room := { frames := 3, cells := 2, slots := 2, locals := 54 }
theorem d18_0 : decode prog_18_method_1_code 0 = .ok (.aload_n 0, 1) := by decide +kernel
theorem d18_1 : decode prog_18_method_1_code 1 = .ok (.invokespecial 1, 3) := by decide +kernel
theorem d18_4 : decode prog_18_method_1_code 4 = .ok (.aload_n 0, 1) := by decide +kernel
theorem d18_5 : decode prog_18_method_1_code 5 = .ok (.aload_n 1, 1) := by decide +kernel
theorem pd_14 : parseMethodDescriptor "()I" = some ⟨[], some .int⟩ := by decide +kernel
theorem d18_6 : decode prog_18_method_1_code 6 = .ok (.invokeinterface 7 1, 5) := by decide +kernel
abbrev nmo_0 : MethodName := ⟨"java/util/List", "size", "()I"⟩
theorem d18_11 : decode prog_18_method_1_code 11 = .ok (.newarray .int, 2) := by decide +kernel
theorem d18_13 : decode prog_18_method_1_code 13 = .ok (.putfield 13, 3) := by decide +kernel
theorem d18_16 : decode prog_18_method_1_code 16 = .ok (.aload_n 0, 1) := by decide +kernel
theorem d18_17 : decode prog_18_method_1_code 17 = .ok (.aload_n 1, 1) := by decide +kernel
theorem d18_18 : decode prog_18_method_1_code 18 = .ok (.invokeinterface 7 1, 5) := by decide +kernel
theorem d18_23 : decode prog_18_method_1_code 23 = .ok (.newarray .long, 2) := by decide +kernel
theorem d18_25 : decode prog_18_method_1_code 25 = .ok (.putfield 19, 3) := by decide +kernel
theorem d18_28 : decode prog_18_method_1_code 28 = .ok (.iconst 0, 1) := by decide +kernel
theorem d18_29 : decode prog_18_method_1_code 29 = .ok (.istore_n 2, 1) := by decide +kernel
theorem d18_30 : decode prog_18_method_1_code 30 = .ok (.aload_n 0, 1) := by decide +kernel
theorem d18_31 : decode prog_18_method_1_code 31 = .ok (.getfield 13, 3) := by decide +kernel
theorem d18_34 : decode prog_18_method_1_code 34 = .ok (.arraylength, 1) := by decide +kernel
theorem d18_35 : decode prog_18_method_1_code 35 = .ok (.ifCond .ne 7, 3) := by decide +kernel
theorem d18_42 : decode prog_18_method_1_code 42 = .ok (.ldc 25, 2) := by decide +kernel
theorem d18_44 : decode prog_18_method_1_code 44 = .ok (.istore_n 3, 1) := by decide +kernel
theorem d18_45 : decode prog_18_method_1_code 45 = .ok (.lconst 0, 1) := by decide +kernel
theorem d18_46 : decode prog_18_method_1_code 46 = .ok (.lstore 4, 2) := by decide +kernel
theorem d18_48 : decode prog_18_method_1_code 48 = .ok (.iconst 0, 1) := by decide +kernel
theorem d18_49 : decode prog_18_method_1_code 49 = .ok (.istore 6, 2) := by decide +kernel
theorem d18_51 : decode prog_18_method_1_code 51 = .ok (.iload 6, 2) := by decide +kernel
theorem d18_53 : decode prog_18_method_1_code 53 = .ok (.aload_n 0, 1) := by decide +kernel
theorem d18_54 : decode prog_18_method_1_code 54 = .ok (.getfield 13, 3) := by decide +kernel
theorem d18_57 : decode prog_18_method_1_code 57 = .ok (.arraylength, 1) := by decide +kernel
theorem d18_58 : decode prog_18_method_1_code 58 = .ok (.if_icmp .ge 92, 3) := by decide +kernel
theorem d18_61 : decode prog_18_method_1_code 61 = .ok (.aload_n 0, 1) := by decide +kernel
theorem d18_62 : decode prog_18_method_1_code 62 = .ok (.getfield 13, 3) := by decide +kernel
theorem d18_65 : decode prog_18_method_1_code 65 = .ok (.iload 6, 2) := by decide +kernel
theorem d18_67 : decode prog_18_method_1_code 67 = .ok (.aload_n 1, 1) := by decide +kernel
theorem d18_68 : decode prog_18_method_1_code 68 = .ok (.iload 6, 2) := by decide +kernel
theorem d18_70 : decode prog_18_method_1_code 70 = .ok (.invokeinterface 26 2, 5) := by decide +kernel
abbrev nmo_1 : MethodName := ⟨"java/util/List", "get", "(I)Ljava/lang/Object;"⟩
theorem d18_75 : decode prog_18_method_1_code 75 = .ok (.checkcast 30, 3) := by decide +kernel
theorem d18_78 : decode prog_18_method_1_code 78 = .ok (.invokevirtual 32, 3) := by decide +kernel
theorem d18_81 : decode prog_18_method_1_code 81 = .ok (.iastore, 1) := by decide +kernel
theorem d18_82 : decode prog_18_method_1_code 82 = .ok (.aload_n 0, 1) := by decide +kernel
theorem d18_83 : decode prog_18_method_1_code 83 = .ok (.getfield 19, 3) := by decide +kernel
theorem d18_86 : decode prog_18_method_1_code 86 = .ok (.iload 6, 2) := by decide +kernel
theorem d18_88 : decode prog_18_method_1_code 88 = .ok (.aload_n 1, 1) := by decide +kernel
theorem d18_89 : decode prog_18_method_1_code 89 = .ok (.iload 6, 2) := by decide +kernel
theorem d18_91 : decode prog_18_method_1_code 91 = .ok (.invokeinterface 26 2, 5) := by decide +kernel
theorem d18_96 : decode prog_18_method_1_code 96 = .ok (.checkcast 30, 3) := by decide +kernel
theorem pd_17 : parseMethodDescriptor "()Ljava/time/Duration;" = some ⟨[], some (.object "java/time/Duration")⟩ := by decide +kernel
theorem d18_99 : decode prog_18_method_1_code 99 = .ok (.invokevirtual 35, 3) := by decide +kernel
theorem pd_18 : parseMethodDescriptor "()J" = some ⟨[], some .long⟩ := by decide +kernel
theorem d18_102 : decode prog_18_method_1_code 102 = .ok (.invokevirtual 39, 3) := by decide +kernel
theorem d18_105 : decode prog_18_method_1_code 105 = .ok (.lastore, 1) := by decide +kernel
theorem d18_106 : decode prog_18_method_1_code 106 = .ok (.iload_n 2, 1) := by decide +kernel
theorem d18_107 : decode prog_18_method_1_code 107 = .ok (.aload_n 0, 1) := by decide +kernel
theorem d18_108 : decode prog_18_method_1_code 108 = .ok (.getfield 13, 3) := by decide +kernel
theorem d18_111 : decode prog_18_method_1_code 111 = .ok (.iload 6, 2) := by decide +kernel
theorem d18_113 : decode prog_18_method_1_code 113 = .ok (.iaload, 1) := by decide +kernel
theorem d18_114 : decode prog_18_method_1_code 114 = .ok (.invokestatic 45, 3) := by decide +kernel
theorem d18_117 : decode prog_18_method_1_code 117 = .ok (.istore_n 2, 1) := by decide +kernel
theorem d18_118 : decode prog_18_method_1_code 118 = .ok (.iload_n 3, 1) := by decide +kernel
theorem d18_119 : decode prog_18_method_1_code 119 = .ok (.aload_n 0, 1) := by decide +kernel
theorem d18_120 : decode prog_18_method_1_code 120 = .ok (.getfield 13, 3) := by decide +kernel
theorem d18_123 : decode prog_18_method_1_code 123 = .ok (.iload 6, 2) := by decide +kernel
theorem d18_125 : decode prog_18_method_1_code 125 = .ok (.iaload, 1) := by decide +kernel
theorem d18_126 : decode prog_18_method_1_code 126 = .ok (.invokestatic 51, 3) := by decide +kernel
theorem d18_129 : decode prog_18_method_1_code 129 = .ok (.istore_n 3, 1) := by decide +kernel
theorem d18_130 : decode prog_18_method_1_code 130 = .ok (.lload 4, 2) := by decide +kernel
theorem d18_132 : decode prog_18_method_1_code 132 = .ok (.aload_n 0, 1) := by decide +kernel
theorem d18_133 : decode prog_18_method_1_code 133 = .ok (.getfield 19, 3) := by decide +kernel
theorem d18_136 : decode prog_18_method_1_code 136 = .ok (.iload 6, 2) := by decide +kernel
theorem d18_138 : decode prog_18_method_1_code 138 = .ok (.laload, 1) := by decide +kernel
theorem d18_139 : decode prog_18_method_1_code 139 = .ok (.invokestatic 54, 3) := by decide +kernel
theorem d18_142 : decode prog_18_method_1_code 142 = .ok (.lstore 4, 2) := by decide +kernel
theorem d18_144 : decode prog_18_method_1_code 144 = .ok (.iinc 6 1, 3) := by decide +kernel
theorem d18_147 : decode prog_18_method_1_code 147 = .ok (.goto (-96), 3) := by decide +kernel
theorem d18_150 : decode prog_18_method_1_code 150 = .ok (.aload_n 0, 1) := by decide +kernel
theorem d18_151 : decode prog_18_method_1_code 151 = .ok (.iload_n 2, 1) := by decide +kernel
theorem d18_152 : decode prog_18_method_1_code 152 = .ok (.putfield 57, 3) := by decide +kernel
theorem d18_155 : decode prog_18_method_1_code 155 = .ok (.aload_n 0, 1) := by decide +kernel
theorem d18_156 : decode prog_18_method_1_code 156 = .ok (.iload_n 3, 1) := by decide +kernel
theorem d18_157 : decode prog_18_method_1_code 157 = .ok (.putfield 61, 3) := by decide +kernel
theorem d18_160 : decode prog_18_method_1_code 160 = .ok (.aload_n 0, 1) := by decide +kernel
theorem d18_161 : decode prog_18_method_1_code 161 = .ok (.lload 4, 2) := by decide +kernel
theorem d18_163 : decode prog_18_method_1_code 163 = .ok (.putfield 64, 3) := by decide +kernel
theorem d18_166 : decode prog_18_method_1_code 166 = .ok (.return_, 1) := by decide +kernel
theorem pn_com_example_steady_sluice_steadysluice_RuleSet : plainName "com/example/steady_sluice/steadysluice/RuleSet" = true := by first | (simp [plainName, overriddenIn]; done) | decide +kernel
theorem ef_18 (m : MethodId) (x0 : Addr) (x1 : Addr) : entryFrame m #[(.ref x0), (.ref x1)] 7 = mkF m 0 #[.val (.ref x0), .val (.ref x1), .unset, .unset, .unset, .unset, .unset] [] := by first | (simp [entryFrame, mkF, argsToLocals, Value.category]; done) | rfl
abbrev nm_18 : MethodName := ⟨"com/example/steady_sluice/steadysluice/RuleSet", "<init>", "(Ljava/util/List;)V"⟩
set_option maxRecDepth 65536 in
set_option maxHeartbeats 40000000 in
theorem rm18 (l : Launch) (Z : State) (a0 : Array Value) (hw : ∀ d ∈ tables_1, d.before a0 Z = true) (ws : List Jvm.Cond) (a1 : Addr) (a2 : Addr) (b : Addr) (k : ClassId) (ru : Addr) (du : Addr) (mc : Int32) (cn : Int32) (h0 : Heap) (n0 : Nat) (Z0 : n0 ≤ h0.size) (g0_a1 : n0 ≤ a1) (PA : RsAt Z h0 a1 .null .null (.int (0 : Int32)) (.int (0 : Int32)) (.long (0 : Int64))) (PL : AlAt Z h0 a2 (.int mc) (.ref b) (.int (1 : Int32))) (VB : Arv Z h0 b k (.object "java/lang/Object") (10 : Int32) [(.ref ru), .null, .null, .null, .null, .null, .null, .null, .null, .null] .null) (PR : RuAt Z h0 ru (.int cn) (.ref du)) (PD : DuAt Z h0 du (.long (0 : Int64)) (.int (1 : Int32))) (hc1 : (0 : Int32) < cn) (hc2 : cn < (2147483647 : Int32)) :
    MetFree l nm_18 (head1 (Jvm.Cond.code nm_18 prog_18_method_1_code 7 none :: ws) rr_3_2_2_54) (fun aa zU => aa = #[(.ref a1), (.ref a2)] ∧ Z.Warmed39 zU.vm ∧ zU.heap = h0) (fun _ _ _ _ _ => True) (fun _ zU zo zU' => ∃ zv zL, zo = .returned zv ∧ QO (fun h => ∃ c1 c2, RsAt Z h a1 (.ref c1) (.ref c2) (.int cn) (.int cn) (.long (1 : Int64))) [a1] h0 n0 zv zU'.heap zL ∧ FrameEnd zU zo zU' zL rr_3_2_2_54.cells rr_3_2_2_54.slots) := by
  refine MetFree.of_bodySF (plainFor_of_name pn_com_example_steady_sluice_steadysluice_RuleSet) hisR ?_
  intro p e s m args below meth c s₁ Bd hml0 hP hK
  obtain ⟨rfl, hZ, hh⟩ := hP
  have hx := Bd.exec
  have hby := Bd.bytes
  have hml : c.maxLocals = 7 := hml0
  have hown : s.vm.findClass "com/example/steady_sluice/steadysluice/RuleSet" = some m.cls := findClass_of_methodNamed Bd.named
  have hnm := (name_of_methodNamed Bd.named Bd.method).1
  have X0 : Stand p l e rr_3_2_2_54 s m #[(.ref a1), (.ref a2)] below meth c s₁ [] 0 0 := Stand.of_body Bd
  have e0 : s₁.heap = h0 := by rw [← hh, Bd.state]; rfl
  have N0 := Fr.nil n0
  have pre0 : ∀ t, Steps p.tables e below (s₁.setTop (mkF m 0 #[.val (.ref a1), .val (.ref a2), .unset, .unset, .unset, .unset, .unset] [])) t → Steps p.tables e below (s₁.setTop (entryFrame m #[(.ref a1), (.ref a2)] 7)) t := fun t k => castTop (ef_18 m a1 a2) k
  obtain ⟨Eob1, F0ob1, F1ob1, F2ob1, F3ob1, F4ob1⟩ := id PA
  obtain ⟨Eob2, F0ob2, F1ob2, F2ob2⟩ := id PL
  obtain ⟨Eob3, F0ob3, F1ob3⟩ := id PR
  obtain ⟨Eob4, F0ob4, F1ob4⟩ := id PD
  have ne_a1_a2 : a1 ≠ a2 := Exa.ne Eob1 Eob2 (by decide)
  have ne_a1_ru : a1 ≠ ru := Exa.ne Eob1 Eob3 (by decide)
  have ne_a1_du : a1 ≠ du := Exa.ne Eob1 Eob4 (by decide)
  have ne_a1_b : a1 ≠ b := Exa.neArv Eob1 VB (ow hw 118 rfl)
  obtain ⟨T5, X5, e5, st5⟩ := initO X0 hx hZ hown (ow hw 123 rfl) (ow hw 20 rfl) (ow hw 21 rfl) e0 (g := (mkF m 1 #[.val (.ref a1), .val (.ref a2), .unset, .unset, .unset, .unset, .unset] [(.ref a1)])) rfl (by rw [hml]; rfl) rfl (hb hby d18_1) (by decide) (W := 0) (by show 2 * 0 + _ ≤ _; exact Nat.le_of_eq rfl) (by decide)
  obtain ⟨cq6, kq6, q6a, q6b, q6c⟩ := isOf hZ e5 Eob2
  obtain ⟨_, _, ⟨T6, L6, k6, n6⟩, -, X6, ⟨Lc6, hQ6, l6, y6, z6⟩, st6⟩ := X5.interfaceBack hx (xi := nmo_0) (y := nm_19) hown (mvT hZ (ow hw 124 rfl)) (mvT hZ (ow hw 125 rfl)) (mvT hZ (ow hw 126 rfl)) (mvT hZ (ow hw 127 rfl)) (mvT hZ (ow hw 128 rfl)) (mvT hZ (ow hw 129 rfl)) (mvT hZ (ow hw 130 rfl)) (mvT hZ (ow hw 131 rfl)) (by decide) (backOf (W := 1) (rm19 l Z a0 hw [] a2 h0 n0 Z0 F2ob2) hZ (ow hw 132 rfl) (ow hw 3 rfl) (by decide) (by decide)) q6a q6b q6c (g := (mkF m 6 #[.val (.ref a1), .val (.ref a2), .unset, .unset, .unset, .unset, .unset] [(.ref a2), (.ref a1)])) rfl (by rw [hml]; rfl) (Steps.refl _) (argsL := []) (rest := [(.ref a1)]) (lenOf pd_14 rfl) rfl (by show 2 * 0 + _ ≤ _; exact Nat.le_of_eq rfl) (hb hby d18_6) (fun _ _ => ⟨rfl, e5, (by decide : 0 + 0 ≤ _), (by decide : 0 + 0 ≤ _)⟩)
  dsimp only [Pt.U, Pt.locs, Pt.cells, Pt.slots] at X6 l6 y6 z6 st6 hQ6
  subst l6 y6 z6
  obtain ⟨rfl, N6q, e6⟩ := hQ6
  have N6 := Fr.app N0 N6q
  obtain ⟨T7, h7, k7, X7, e7, E7, A7, st7⟩ := newP X6 hx hZ (ow hw 133 rfl) e6 (g := (mkF m 11 #[.val (.ref a1), .val (.ref a2), .unset, .unset, .unset, .unset, .unset] [(.int (1 : Int32)), (.ref a1)])) rfl (hb hby d18_11) rfl (by decide) (cap := 1) (by decide) (by decide) (by decide) (by decide)
  obtain ⟨b7, g_b7⟩ : ∃ z, z = h0.size := ⟨_, rfl⟩
  rw [← g_b7] at A7 st7
  have g0_b7 : n0 ≤ b7 := Nat.le_trans Z0 (Nat.le_of_eq g_b7.symm)
  have sz_b7 : h0.size ≤ b7 := Nat.le_trans (Nat.le_refl _) (Nat.le_of_eq g_b7.symm)
  have ne_a1_b7 : a1 ≠ b7 := Nat.ne_of_lt (Nat.lt_of_lt_of_le Eob1.lt (Nat.le_of_eq g_b7.symm))
  have ne_a2_b7 : a2 ≠ b7 := Nat.ne_of_lt (Nat.lt_of_lt_of_le Eob2.lt (Nat.le_of_eq g_b7.symm))
  have ne_b_b7 : b ≠ b7 := Nat.ne_of_lt (Nat.lt_of_lt_of_le VB.lt (Nat.le_of_eq g_b7.symm))
  have ne_ru_b7 : ru ≠ b7 := Nat.ne_of_lt (Nat.lt_of_lt_of_le Eob3.lt (Nat.le_of_eq g_b7.symm))
  have ne_du_b7 : du ≠ b7 := Nat.ne_of_lt (Nat.lt_of_lt_of_le Eob4.lt (Nat.le_of_eq g_b7.symm))
  have V_b7 : Arv Z h7 b7 k7 .int (1 : Int32) [(.int (0 : Int32))] (.int (0 : Int32)) := (Arv.new A7 (by decide)).pad (pad_rep [] (.int (0 : Int32)) 1)
  have c9 := F0ob1.ext E7
  have c10 := Eob1.ext E7
  obtain ⟨T8, h8, X8, e8, W8, st8⟩ := putF X7 hx hZ hown (host := "") (Or.inl (ow hw 134 rfl)) Via.refl e7 c9 c10 (Or.inr ⟨(ow hw 135 rfl), rfl, hnm⟩) (ow hw 118 rfl) (ty := (.array .int)) (by decide) rfl rfl (g := (mkF m 13 #[.val (.ref a1), .val (.ref a2), .unset, .unset, .unset, .unset, .unset] [(.ref b7), (.ref a1)])) rfl rfl (hb hby d18_13)
  have Fw8 := c9.same W8
  have N8 := Fr.snoc X8 N6 g0_a1
  have c11 := F2ob2.ext E7
  have c12 := c11.other W8 (Or.inl (Ne.symm ne_a1_a2))
  have c14 := Eob2.ext E7
  have c15 := c14.wr W8
  obtain ⟨cq13, kq13, q13a, q13b, q13c⟩ := isOf hZ e8 c15
  obtain ⟨_, _, ⟨T13, L13, k13, n13⟩, -, X13, ⟨Lc13, hQ13, l13, y13, z13⟩, st13⟩ := X8.interfaceBack hx (xi := nmo_0) (y := nm_19) hown (mvT hZ (ow hw 124 rfl)) (mvT hZ (ow hw 125 rfl)) (mvT hZ (ow hw 126 rfl)) (mvT hZ (ow hw 127 rfl)) (mvT hZ (ow hw 128 rfl)) (mvT hZ (ow hw 129 rfl)) (mvT hZ (ow hw 130 rfl)) (mvT hZ (ow hw 131 rfl)) (by decide) (backOf (W := 1) (rm19 l Z a0 hw [] a2 h8 n0 (Nat.le_trans (Nat.le_trans Z0 E7.1) (Keep.of_wr W8).1) c12) hZ (ow hw 132 rfl) (ow hw 3 rfl) (by decide) (by decide)) q13a q13b q13c (g := (mkF m 18 #[.val (.ref a1), .val (.ref a2), .unset, .unset, .unset, .unset, .unset] [(.ref a2), (.ref a1)])) rfl (by rw [hml]; rfl) (Steps.refl _) (argsL := []) (rest := [(.ref a1)]) (lenOf pd_14 rfl) rfl (by show 2 * 0 + _ ≤ _; exact Nat.le_of_eq rfl) (hb hby d18_18) (fun _ _ => ⟨rfl, e8, (by decide : 1 + 0 ≤ _), (by decide : 1 + 0 ≤ _)⟩)
  dsimp only [Pt.U, Pt.locs, Pt.cells, Pt.slots] at X13 l13 y13 z13 st13 hQ13
  subst l13 y13 z13
  obtain ⟨rfl, N13q, e13⟩ := hQ13
  have N13 := Fr.app N8 N13q
  obtain ⟨T16, h16, k16, X16, e16, E16, A16, st16⟩ := newP X13 hx hZ (ow hw 136 rfl) e13 (g := (mkF m 23 #[.val (.ref a1), .val (.ref a2), .unset, .unset, .unset, .unset, .unset] [(.int (1 : Int32)), (.ref a1)])) rfl (hb hby d18_23) rfl (by decide) (cap := 1) (by decide) (by decide) (by decide) (by decide)
  obtain ⟨b16, g_b16⟩ : ∃ z, z = h8.size := ⟨_, rfl⟩
  rw [← g_b16] at A16 st16
  have g0_b16 : n0 ≤ b16 := Nat.le_trans (Nat.le_trans (Nat.le_trans Z0 E7.1) (Keep.of_wr W8).1) (Nat.le_of_eq g_b16.symm)
  have sz_b16 : h0.size ≤ b16 := Nat.le_trans (Nat.le_trans (Nat.le_trans (Nat.le_refl _) E7.1) (Keep.of_wr W8).1) (Nat.le_of_eq g_b16.symm)
  have c17 := c10.wr W8
  have ne_a1_b16 : a1 ≠ b16 := Nat.ne_of_lt (Nat.lt_of_lt_of_le c17.lt (Nat.le_of_eq g_b16.symm))
  have ne_a2_b16 : a2 ≠ b16 := Nat.ne_of_lt (Nat.lt_of_lt_of_le c15.lt (Nat.le_of_eq g_b16.symm))
  have c18 := VB.ext E7
  have c19 := c18.other W8 (Ne.symm ne_a1_b)
  have ne_b_b16 : b ≠ b16 := Nat.ne_of_lt (Nat.lt_of_lt_of_le c19.lt (Nat.le_of_eq g_b16.symm))
  have c20 := Eob3.ext E7
  have c21 := c20.wr W8
  have ne_ru_b16 : ru ≠ b16 := Nat.ne_of_lt (Nat.lt_of_lt_of_le c21.lt (Nat.le_of_eq g_b16.symm))
  have c22 := Eob4.ext E7
  have c23 := c22.wr W8
  have ne_du_b16 : du ≠ b16 := Nat.ne_of_lt (Nat.lt_of_lt_of_le c23.lt (Nat.le_of_eq g_b16.symm))
  have c24 := V_b7.other W8 (Ne.symm ne_a1_b7)
  have ne_b7_b16 : b7 ≠ b16 := Nat.ne_of_lt (Nat.lt_of_lt_of_le c24.lt (Nat.le_of_eq g_b16.symm))
  have V_b16 : Arv Z h16 b16 k16 .long (1 : Int32) [(.long (0 : Int64))] (.long (0 : Int64)) := (Arv.new A16 (by decide)).pad (pad_rep [] (.long (0 : Int64)) 1)
  have c26 := F1ob1.ext E7
  have c27 := c26.other W8 (Or.inr (slot_ne (Or.inr (ow hw 138 rfl)) (Or.inr (ow hw 135 rfl)) (by decide) (t := (.array .long)) (t' := (.array .int)) (by decide) (by decide)))
  have c28 := c27.ext E16
  have c29 := c17.ext E16
  obtain ⟨T25, h25, X25, e25, W25, st25⟩ := putF X16 hx hZ hown (host := "") (Or.inl (ow hw 137 rfl)) Via.refl e16 c28 c29 (Or.inr ⟨(ow hw 138 rfl), rfl, hnm⟩) (ow hw 118 rfl) (ty := (.array .long)) (by decide) rfl rfl (g := (mkF m 25 #[.val (.ref a1), .val (.ref a2), .unset, .unset, .unset, .unset, .unset] [(.ref b16), (.ref a1)])) rfl rfl (hb hby d18_25)
  have Fw25 := c28.same W25
  have N25 := Fr.snoc X25 N13 g0_a1
  have c31 := Fw8.ext E16
  have c32 := c31.other W25 (Or.inr (slot_ne (Or.inr (ow hw 135 rfl)) (Or.inr (ow hw 138 rfl)) (by decide) (t := (.array .int)) (t' := (.array .long)) (by decide) (by decide)))
  obtain ⟨T30, X30, e30, st30⟩ := getF X25 hx hZ hown (host := "") (Or.inl (ow hw 134 rfl)) Via.refl e25 c32 (g := (mkF m 31 #[.val (.ref a1), .val (.ref a2), .val (.int (0 : Int32)), .unset, .unset, .unset, .unset] [(.ref a1)])) rfl rfl (hb hby d18_31)
  have c33 := c24.ext E16
  have c34 := c33.other W25 (Ne.symm ne_a1_b7)
  obtain ⟨clz35, Arz35, qz35, Sz35, Nz35, Hz35, Gz35⟩ := id c34
  obtain ⟨T36, X36, e36, st36⟩ := getF X30 hx hZ hown (host := "") (Or.inl (ow hw 134 rfl)) Via.refl e30 c32 (g := (mkF m 54 #[.val (.ref a1), .val (.ref a2), .val (.int (0 : Int32)), .val (.int (2147483647 : Int32)), .val (.long (0 : Int64)), .second, .val (.int (0 : Int32))] [(.ref a1), (.int (0 : Int32))])) rfl rfl (hb hby d18_54)
  obtain ⟨clz37, Arz37, qz37, Sz37, Nz37, Hz37, Gz37⟩ := id c34
  obtain ⟨T38, X38, e38, st38⟩ := getF X36 hx hZ hown (host := "") (Or.inl (ow hw 134 rfl)) Via.refl e36 c32 (g := (mkF m 62 #[.val (.ref a1), .val (.ref a2), .val (.int (0 : Int32)), .val (.int (2147483647 : Int32)), .val (.long (0 : Int64)), .second, .val (.int (0 : Int32))] [(.ref a1)])) rfl rfl (hb hby d18_62)
  have c39 := F1ob2.ext E7
  have c40 := c39.other W8 (Or.inl (Ne.symm ne_a1_a2))
  have c41 := c40.ext E16
  have c42 := c41.other W25 (Or.inl (Ne.symm ne_a1_a2))
  have c43 := c19.ext E16
  have c44 := c43.other W25 (Ne.symm ne_a1_b)
  have c45 := c12.ext E16
  have c46 := c45.other W25 (Or.inl (Ne.symm ne_a1_a2))
  have c47 := c15.ext E16
  have c48 := c47.wr W25
  obtain ⟨cq49, kq49, q49a, q49b, q49c⟩ := isOf hZ e38 c48
  obtain ⟨_, _, ⟨T49, L49, k49, n49⟩, -, X49, ⟨Lc49, hQ49, l49, y49, z49⟩, st49⟩ := X38.interfaceBack hx (xi := nmo_1) (y := nm_20) hown (mvT hZ (ow hw 140 rfl)) (mvT hZ (ow hw 141 rfl)) (mvT hZ (ow hw 142 rfl)) (mvT hZ (ow hw 143 rfl)) (mvT hZ (ow hw 144 rfl)) (mvT hZ (ow hw 145 rfl)) (mvT hZ (ow hw 146 rfl)) (mvT hZ (ow hw 131 rfl)) (by decide) (backOf (W := 2) (rm20 l Z a0 hw [] a2 ru b k h25 n0 (Nat.le_trans (Nat.le_trans (Nat.le_trans (Nat.le_trans Z0 E7.1) (Keep.of_wr W8).1) E16.1) (Keep.of_wr W25).1) c42 c44 c46 c48) hZ (ow hw 147 rfl) (ow hw 3 rfl) (by decide) (by decide)) q49a q49b q49c (g := (mkF m 70 #[.val (.ref a1), .val (.ref a2), .val (.int (0 : Int32)), .val (.int (2147483647 : Int32)), .val (.long (0 : Int64)), .second, .val (.int (0 : Int32))] [(.int (0 : Int32)), (.ref a2), (.int (0 : Int32)), (.ref b7)])) rfl (by rw [hml]; rfl) (Steps.refl _) (argsL := [(.int (0 : Int32))]) (rest := [(.int (0 : Int32)), (.ref b7)]) (lenOf pd_15 rfl) rfl (by show 2 * 0 + _ ≤ _; exact Nat.le_of_eq rfl) (hb hby d18_70) (fun _ _ => ⟨rfl, e38, (by decide : 2 + 0 ≤ _), (by decide : 2 + 0 ≤ _)⟩)
  dsimp only [Pt.U, Pt.locs, Pt.cells, Pt.slots] at X49 l49 y49 z49 st49 hQ49
  subst l49 y49 z49
  obtain ⟨rfl, N49q, e49⟩ := hQ49
  have N49 := Fr.app N25 N49q
  have c50 := c21.ext E16
  have c51 := c50.wr W25
  obtain ⟨T52, X52, e52, st52⟩ := castY X49 hx hZ hown (ow hw 160 rfl) e49 (Ins.self c51) (g := (mkF m 75 #[.val (.ref a1), .val (.ref a2), .val (.int (0 : Int32)), .val (.int (2147483647 : Int32)), .val (.long (0 : Int64)), .second, .val (.int (0 : Int32))] [(.ref ru), (.int (0 : Int32)), (.ref b7)])) rfl rfl (hb hby d18_75)
  have c53 := F0ob3.ext E7
  have c54 := c53.other W8 (Or.inl (Ne.symm ne_a1_ru))
  have c55 := c54.ext E16
  have c56 := c55.other W25 (Or.inl (Ne.symm ne_a1_ru))
  obtain ⟨cq57, kq57, q57a, q57b, q57c⟩ := isOf hZ e52 c51
  obtain ⟨_, _, ⟨T57, L57, k57, n57⟩, -, X57, ⟨Lc57, hQ57, l57, y57, z57⟩, st57⟩ := X52.virtualBack hx (y := nm_24) (z := nm_24) hown (mvT hZ (ow hw 162 rfl)) (mvT hZ (ow hw 163 rfl)) (notFace_of_selects (args := #[]) (mvT hZ (ow hw 165 rfl))) (mvT hZ (ow hw 165 rfl)) (mvT hZ (ow hw 164 rfl)) (by decide) (backOf (W := 2) (rm24 l Z a0 hw [] ru cn h25 n0 (Nat.le_trans (Nat.le_trans (Nat.le_trans (Nat.le_trans Z0 E7.1) (Keep.of_wr W8).1) E16.1) (Keep.of_wr W25).1) c56) hZ (ow hw 166 rfl) (ow hw 29 rfl) (by decide) (by decide)) q57a q57c (g := (mkF m 78 #[.val (.ref a1), .val (.ref a2), .val (.int (0 : Int32)), .val (.int (2147483647 : Int32)), .val (.long (0 : Int64)), .second, .val (.int (0 : Int32))] [(.ref ru), (.int (0 : Int32)), (.ref b7)])) rfl (by rw [hml]; rfl) (Steps.refl _) (argsL := []) (rest := [(.int (0 : Int32)), (.ref b7)]) (lenOf pd_14 rfl) rfl (by show 2 * 0 + _ ≤ _; exact Nat.le_of_eq rfl) (hb hby d18_78) (fun _ _ => ⟨rfl, e52, (by decide : 2 + 0 ≤ _), (by decide : 2 + 0 ≤ _)⟩)
  dsimp only [Pt.U, Pt.locs, Pt.cells, Pt.slots] at X57 l57 y57 z57 st57 hQ57
  subst l57 y57 z57
  obtain ⟨rfl, N57q, e57⟩ := hQ57
  have N57 := Fr.app N49 N57q
  obtain ⟨clz58, Arz58, qz58, Sz58, Nz58, Hz58, Gz58⟩ := id c34
  have hin59 : ¬ ((0 : Int32) < 0 ∨ clz58.slots.size ≤ ((0 : Int32)).toNatClampNeg) := inb_of Sz58 ⟨by decide, by decide⟩
  obtain ⟨T59, h59, X59, e59, W59, st59⟩ := stI X57 hx hZ e57 Arz58 (j := (0 : Int32)) hin59 (g := (mkF m 81 #[.val (.ref a1), .val (.ref a2), .val (.int (0 : Int32)), .val (.int (2147483647 : Int32)), .val (.long (0 : Int64)), .second, .val (.int (0 : Int32))] [(.int cn), (.int (0 : Int32)), (.ref b7)])) rfl rfl (hb hby d18_81)
  have V59 : Arv Z h59 b7 k7 .int (1 : Int32) [(.int cn)] (.int (0 : Int32)) := Arv.set Arz58 qz58 Sz58 Nz58 Hz58 Gz58 rfl W59 0 rfl (Nat.le_of_ble_eq_true rfl)
  have N59 := Fr.snoc X59 N57 g0_b7
  have c61 := Fw25.other W59 (Or.inl ne_a1_b7)
  obtain ⟨T60, X60, e60, st60⟩ := getF X59 hx hZ hown (host := "") (Or.inl (ow hw 137 rfl)) Via.refl e59 c61 (g := (mkF m 83 #[.val (.ref a1), .val (.ref a2), .val (.int (0 : Int32)), .val (.int (2147483647 : Int32)), .val (.long (0 : Int64)), .second, .val (.int (0 : Int32))] [(.ref a1)])) rfl rfl (hb hby d18_83)
  have c62 := c42.other W59 (Or.inl ne_a2_b7)
  have c63 := c44.other W59 ne_b_b7
  have c64 := c46.other W59 (Or.inl ne_a2_b7)
  have c65 := c48.wr W59
  obtain ⟨cq66, kq66, q66a, q66b, q66c⟩ := isOf hZ e60 c65
  obtain ⟨_, _, ⟨T66, L66, k66, n66⟩, -, X66, ⟨Lc66, hQ66, l66, y66, z66⟩, st66⟩ := X60.interfaceBack hx (xi := nmo_1) (y := nm_20) hown (mvT hZ (ow hw 140 rfl)) (mvT hZ (ow hw 141 rfl)) (mvT hZ (ow hw 142 rfl)) (mvT hZ (ow hw 143 rfl)) (mvT hZ (ow hw 144 rfl)) (mvT hZ (ow hw 145 rfl)) (mvT hZ (ow hw 146 rfl)) (mvT hZ (ow hw 131 rfl)) (by decide) (backOf (W := 2) (rm20 l Z a0 hw [] a2 ru b k h59 n0 (Nat.le_trans (Nat.le_trans (Nat.le_trans (Nat.le_trans (Nat.le_trans Z0 E7.1) (Keep.of_wr W8).1) E16.1) (Keep.of_wr W25).1) (Keep.of_wr W59).1) c62 c63 c64 c65) hZ (ow hw 147 rfl) (ow hw 3 rfl) (by decide) (by decide)) q66a q66b q66c (g := (mkF m 91 #[.val (.ref a1), .val (.ref a2), .val (.int (0 : Int32)), .val (.int (2147483647 : Int32)), .val (.long (0 : Int64)), .second, .val (.int (0 : Int32))] [(.int (0 : Int32)), (.ref a2), (.int (0 : Int32)), (.ref b16)])) rfl (by rw [hml]; rfl) (Steps.refl _) (argsL := [(.int (0 : Int32))]) (rest := [(.int (0 : Int32)), (.ref b16)]) (lenOf pd_15 rfl) rfl (by show 2 * 0 + _ ≤ _; exact Nat.le_of_eq rfl) (hb hby d18_91) (fun _ _ => ⟨rfl, e60, (by decide : 2 + 0 ≤ _), (by decide : 2 + 0 ≤ _)⟩)
  dsimp only [Pt.U, Pt.locs, Pt.cells, Pt.slots] at X66 l66 y66 z66 st66 hQ66
  subst l66 y66 z66
  obtain ⟨rfl, N66q, e66⟩ := hQ66
  have N66 := Fr.app N59 N66q
  have c67 := c51.wr W59
  obtain ⟨T68, X68, e68, st68⟩ := castY X66 hx hZ hown (ow hw 160 rfl) e66 (Ins.self c67) (g := (mkF m 96 #[.val (.ref a1), .val (.ref a2), .val (.int (0 : Int32)), .val (.int (2147483647 : Int32)), .val (.long (0 : Int64)), .second, .val (.int (0 : Int32))] [(.ref ru), (.int (0 : Int32)), (.ref b16)])) rfl rfl (hb hby d18_96)
  have c69 := F1ob3.ext E7
  have c70 := c69.other W8 (Or.inl (Ne.symm ne_a1_ru))
  have c71 := c70.ext E16
  have c72 := c71.other W25 (Or.inl (Ne.symm ne_a1_ru))
  have c73 := c72.other W59 (Or.inl ne_ru_b7)
  obtain ⟨cq74, kq74, q74a, q74b, q74c⟩ := isOf hZ e68 c67
  obtain ⟨_, _, ⟨T74, L74, k74, n74⟩, -, X74, ⟨Lc74, hQ74, l74, y74, z74⟩, st74⟩ := X68.virtualBack hx (y := nm_25) (z := nm_25) hown (mvT hZ (ow hw 167 rfl)) (mvT hZ (ow hw 168 rfl)) (notFace_of_selects (args := #[]) (mvT hZ (ow hw 170 rfl))) (mvT hZ (ow hw 170 rfl)) (mvT hZ (ow hw 169 rfl)) (by decide) (backOf (W := 2) (rm25 l Z a0 hw [] ru du h59 n0 (Nat.le_trans (Nat.le_trans (Nat.le_trans (Nat.le_trans (Nat.le_trans Z0 E7.1) (Keep.of_wr W8).1) E16.1) (Keep.of_wr W25).1) (Keep.of_wr W59).1) c73) hZ (ow hw 171 rfl) (ow hw 29 rfl) (by decide) (by decide)) q74a q74c (g := (mkF m 99 #[.val (.ref a1), .val (.ref a2), .val (.int (0 : Int32)), .val (.int (2147483647 : Int32)), .val (.long (0 : Int64)), .second, .val (.int (0 : Int32))] [(.ref ru), (.int (0 : Int32)), (.ref b16)])) rfl (by rw [hml]; rfl) (Steps.refl _) (argsL := []) (rest := [(.int (0 : Int32)), (.ref b16)]) (lenOf pd_17 rfl) rfl (by show 2 * 0 + _ ≤ _; exact Nat.le_of_eq rfl) (hb hby d18_99) (fun _ _ => ⟨rfl, e68, (by decide : 2 + 0 ≤ _), (by decide : 2 + 0 ≤ _)⟩)
  dsimp only [Pt.U, Pt.locs, Pt.cells, Pt.slots] at X74 l74 y74 z74 st74 hQ74
  subst l74 y74 z74
  obtain ⟨rfl, N74q, e74⟩ := hQ74
  have N74 := Fr.app N66 N74q
  have c75 := F0ob4.ext E7
  have c76 := c75.other W8 (Or.inl (Ne.symm ne_a1_du))
  have c77 := c76.ext E16
  have c78 := c77.other W25 (Or.inl (Ne.symm ne_a1_du))
  have c79 := c78.other W59 (Or.inl ne_du_b7)
  have c80 := F1ob4.ext E7
  have c81 := c80.other W8 (Or.inl (Ne.symm ne_a1_du))
  have c82 := c81.ext E16
  have c83 := c82.other W25 (Or.inl (Ne.symm ne_a1_du))
  have c84 := c83.other W59 (Or.inl ne_du_b7)
  have c86 := c23.ext E16
  have c87 := c86.wr W25
  have c88 := c87.wr W59
  obtain ⟨cq85, kq85, q85a, q85b, q85c⟩ := isOf hZ e74 c88
  obtain ⟨_, _, ⟨T85, L85, k85, n85⟩, -, X85, ⟨Lc85, hQ85, l85, y85, z85⟩, st85⟩ := X74.virtualBack hx (y := nm_26) (z := nm_26) hown (mvT hZ (ow hw 172 rfl)) (mvT hZ (ow hw 173 rfl)) (notFace_of_selects (args := #[]) (mvT hZ (ow hw 175 rfl))) (mvT hZ (ow hw 175 rfl)) (mvT hZ (ow hw 174 rfl)) (by decide) (backOf (W := 2) (rm26 l Z a0 hw [] du h59 n0 (Nat.le_trans (Nat.le_trans (Nat.le_trans (Nat.le_trans (Nat.le_trans Z0 E7.1) (Keep.of_wr W8).1) E16.1) (Keep.of_wr W25).1) (Keep.of_wr W59).1) c79 c84) hZ (ow hw 176 rfl) (ow hw 32 rfl) (by decide) (by decide)) q85a q85c (g := (mkF m 102 #[.val (.ref a1), .val (.ref a2), .val (.int (0 : Int32)), .val (.int (2147483647 : Int32)), .val (.long (0 : Int64)), .second, .val (.int (0 : Int32))] [(.ref du), (.int (0 : Int32)), (.ref b16)])) rfl (by rw [hml]; rfl) (Steps.refl _) (argsL := []) (rest := [(.int (0 : Int32)), (.ref b16)]) (lenOf pd_18 rfl) rfl (by show 2 * 0 + _ ≤ _; exact Nat.le_of_eq rfl) (hb hby d18_102) (fun _ _ => ⟨rfl, e74, (by decide : 2 + 0 ≤ _), (by decide : 2 + 0 ≤ _)⟩)
  dsimp only [Pt.U, Pt.locs, Pt.cells, Pt.slots] at X85 l85 y85 z85 st85 hQ85
  subst l85 y85 z85
  obtain ⟨rfl, N85q, e85⟩ := hQ85
  have N85 := Fr.app N74 N85q
  have c89 := V_b16.other W25 (Ne.symm ne_a1_b16)
  have c90 := c89.other W59 (Ne.symm ne_b7_b16)
  obtain ⟨clz91, Arz91, qz91, Sz91, Nz91, Hz91, Gz91⟩ := id c90
  have hin92 : ¬ ((0 : Int32) < 0 ∨ clz91.slots.size ≤ ((0 : Int32)).toNatClampNeg) := inb_of Sz91 ⟨by decide, by decide⟩
  obtain ⟨T92, h92, X92, e92, W92, st92⟩ := stJ X85 hx hZ e85 Arz91 (j := (0 : Int32)) hin92 (g := (mkF m 105 #[.val (.ref a1), .val (.ref a2), .val (.int (0 : Int32)), .val (.int (2147483647 : Int32)), .val (.long (0 : Int64)), .second, .val (.int (0 : Int32))] [(.long (1 : Int64)), (.int (0 : Int32)), (.ref b16)])) rfl rfl (hb hby d18_105)
  have V92 : Arv Z h92 b16 k16 .long (1 : Int32) [(.long (1 : Int64))] (.long (0 : Int64)) := Arv.set Arz91 qz91 Sz91 Nz91 Hz91 Gz91 rfl W92 0 rfl (Nat.le_of_ble_eq_true rfl)
  have N92 := Fr.snoc X92 N85 g0_b16
  have c94 := c32.other W59 (Or.inl ne_a1_b7)
  have c95 := c94.other W92 (Or.inl ne_a1_b16)
  obtain ⟨T93, X93, e93, st93⟩ := getF X92 hx hZ hown (host := "") (Or.inl (ow hw 134 rfl)) Via.refl e92 c95 (g := (mkF m 108 #[.val (.ref a1), .val (.ref a2), .val (.int (0 : Int32)), .val (.int (2147483647 : Int32)), .val (.long (0 : Int64)), .second, .val (.int (0 : Int32))] [(.ref a1), (.int (0 : Int32))])) rfl rfl (hb hby d18_108)
  have c96 := V59.other W92 ne_b7_b16
  obtain ⟨clz97, Arz97, qz97, Sz97, Nz97, Hz97, Gz97⟩ := id c96
  have hin98 : ¬ ((0 : Int32) < 0 ∨ clz97.slots.size ≤ ((0 : Int32)).toNatClampNeg) := inb_of Sz97 ⟨by decide, by decide⟩
  have hat98 : clz97.slots[((0 : Int32)).toNatClampNeg]? = some (.int cn) := Hz97.at hin98 rfl
  obtain ⟨_, _, ⟨T99, L99, k99, n99⟩, -, X99, ⟨Lc99, hQ99, l99, y99, z99⟩, st99⟩ := Jvm.LawKit.callS X93 hx (y := nm_17) hown (mvT hZ (ow hw 186 rfl)) (mvT hZ (ow hw 111 rfl)) (mvT hZ (ow hw 112 rfl)) (mvT hZ (ow hw 113 rfl)) (by decide) (backOf (W := 0) (rm17_t l Z a0 hw [] (0 : Int32) cn h92 n0 (Nat.le_trans (Nat.le_trans (Nat.le_trans (Nat.le_trans (Nat.le_trans (Nat.le_trans Z0 E7.1) (Keep.of_wr W8).1) E16.1) (Keep.of_wr W25).1) (Keep.of_wr W59).1) (Keep.of_wr W92).1) hc1) hZ (ow hw 113 rfl) (ow hw 112 rfl) (by decide) (by decide)) (g := (mkF m 114 #[.val (.ref a1), .val (.ref a2), .val (.int (0 : Int32)), .val (.int (2147483647 : Int32)), .val (.long (0 : Int64)), .second, .val (.int (0 : Int32))] [(.int cn), (.int (0 : Int32))])) rfl (by rw [hml]; rfl) (argsL := [(.int (0 : Int32)), (.int cn)]) (rest := []) (lenOf pd_12 rfl) rfl (by show 2 * 0 + _ ≤ _; exact Nat.le_of_eq rfl) (hb hby d18_114) (fun _ _ => ⟨rfl, e93, (by decide : 2 + 0 ≤ _), (by decide : 2 + 0 ≤ _)⟩)
  dsimp only [Pt.U, Pt.locs, Pt.cells, Pt.slots] at X99 l99 y99 z99 st99 hQ99
  subst l99 y99 z99
  obtain ⟨rfl, N99q, e99⟩ := hQ99
  have N99 := Fr.app N92 N99q
  obtain ⟨T100, X100, e100, st100⟩ := getF X99 hx hZ hown (host := "") (Or.inl (ow hw 134 rfl)) Via.refl e99 c95 (g := (mkF m 120 #[.val (.ref a1), .val (.ref a2), .val (.int cn), .val (.int (2147483647 : Int32)), .val (.long (0 : Int64)), .second, .val (.int (0 : Int32))] [(.ref a1), (.int (2147483647 : Int32))])) rfl rfl (hb hby d18_120)
  obtain ⟨clz101, Arz101, qz101, Sz101, Nz101, Hz101, Gz101⟩ := id c96
  have hin102 : ¬ ((0 : Int32) < 0 ∨ clz101.slots.size ≤ ((0 : Int32)).toNatClampNeg) := inb_of Sz101 ⟨by decide, by decide⟩
  have hat102 : clz101.slots[((0 : Int32)).toNatClampNeg]? = some (.int cn) := Hz101.at hin102 rfl
  obtain ⟨_, _, ⟨T103, L103, k103, n103⟩, -, X103, ⟨Lc103, hQ103, l103, y103, z103⟩, st103⟩ := Jvm.LawKit.callS X100 hx (y := nm_30) hown (mvT hZ (ow hw 187 rfl)) (mvT hZ (ow hw 188 rfl)) (mvT hZ (ow hw 112 rfl)) (mvT hZ (ow hw 189 rfl)) (by decide) (backOf (W := 0) (rm30_t l Z a0 hw [] (2147483647 : Int32) cn h92 n0 (Nat.le_trans (Nat.le_trans (Nat.le_trans (Nat.le_trans (Nat.le_trans (Nat.le_trans Z0 E7.1) (Keep.of_wr W8).1) E16.1) (Keep.of_wr W25).1) (Keep.of_wr W59).1) (Keep.of_wr W92).1) hc2) hZ (ow hw 189 rfl) (ow hw 112 rfl) (by decide) (by decide)) (g := (mkF m 126 #[.val (.ref a1), .val (.ref a2), .val (.int cn), .val (.int (2147483647 : Int32)), .val (.long (0 : Int64)), .second, .val (.int (0 : Int32))] [(.int cn), (.int (2147483647 : Int32))])) rfl (by rw [hml]; rfl) (argsL := [(.int (2147483647 : Int32)), (.int cn)]) (rest := []) (lenOf pd_12 rfl) rfl (by show 2 * 0 + _ ≤ _; exact Nat.le_of_eq rfl) (hb hby d18_126) (fun _ _ => ⟨rfl, e100, (by decide : 2 + 0 ≤ _), (by decide : 2 + 0 ≤ _)⟩)
  dsimp only [Pt.U, Pt.locs, Pt.cells, Pt.slots] at X103 l103 y103 z103 st103 hQ103
  subst l103 y103 z103
  obtain ⟨rfl, N103q, e103⟩ := hQ103
  have N103 := Fr.app N99 N103q
  have c105 := c61.other W92 (Or.inl ne_a1_b16)
  obtain ⟨T104, X104, e104, st104⟩ := getF X103 hx hZ hown (host := "") (Or.inl (ow hw 137 rfl)) Via.refl e103 c105 (g := (mkF m 133 #[.val (.ref a1), .val (.ref a2), .val (.int cn), .val (.int cn), .val (.long (0 : Int64)), .second, .val (.int (0 : Int32))] [(.ref a1), (.long (0 : Int64))])) rfl rfl (hb hby d18_133)
  obtain ⟨clz106, Arz106, qz106, Sz106, Nz106, Hz106, Gz106⟩ := id V92
  have hin107 : ¬ ((0 : Int32) < 0 ∨ clz106.slots.size ≤ ((0 : Int32)).toNatClampNeg) := inb_of Sz106 ⟨by decide, by decide⟩
  have hat107 : clz106.slots[((0 : Int32)).toNatClampNeg]? = some (.long (1 : Int64)) := Hz106.at hin107 rfl
  obtain ⟨_, _, ⟨T108, L108, k108, n108⟩, -, X108, ⟨Lc108, hQ108, l108, y108, z108⟩, st108⟩ := Jvm.LawKit.callS X104 hx (y := nm_31) hown (mvT hZ (ow hw 190 rfl)) (mvT hZ (ow hw 191 rfl)) (mvT hZ (ow hw 112 rfl)) (mvT hZ (ow hw 192 rfl)) (by decide) (backOf (W := 0) (rm31 l Z a0 hw [] h92 n0 (Nat.le_trans (Nat.le_trans (Nat.le_trans (Nat.le_trans (Nat.le_trans (Nat.le_trans Z0 E7.1) (Keep.of_wr W8).1) E16.1) (Keep.of_wr W25).1) (Keep.of_wr W59).1) (Keep.of_wr W92).1)) hZ (ow hw 192 rfl) (ow hw 112 rfl) (by decide) (by decide)) (g := (mkF m 139 #[.val (.ref a1), .val (.ref a2), .val (.int cn), .val (.int cn), .val (.long (0 : Int64)), .second, .val (.int (0 : Int32))] [(.long (1 : Int64)), (.long (0 : Int64))])) rfl (by rw [hml]; rfl) (argsL := [(.long (0 : Int64)), (.long (1 : Int64))]) (rest := []) (lenOf pd_19 rfl) rfl (by show 2 * 0 + _ ≤ _; exact Nat.le_of_eq rfl) (hb hby d18_139) (fun _ _ => ⟨rfl, e104, (by decide : 2 + 0 ≤ _), (by decide : 2 + 0 ≤ _)⟩)
  dsimp only [Pt.U, Pt.locs, Pt.cells, Pt.slots] at X108 l108 y108 z108 st108 hQ108
  subst l108 y108 z108
  obtain ⟨rfl, N108q, e108⟩ := hQ108
  have N108 := Fr.app N103 N108q
  obtain ⟨T109, X109, e109, st109⟩ := getF X108 hx hZ hown (host := "") (Or.inl (ow hw 134 rfl)) Via.refl e108 c95 (g := (mkF m 54 #[.val (.ref a1), .val (.ref a2), .val (.int cn), .val (.int cn), .val (.long (1 : Int64)), .second, .val (.int ((0 : Int32) + (1 : Int32)))] [(.ref a1), (.int ((0 : Int32) + (1 : Int32)))])) rfl rfl (hb hby d18_54)
  obtain ⟨clz110, Arz110, qz110, Sz110, Nz110, Hz110, Gz110⟩ := id c96
  have c112 := F2ob1.ext E7
  have c113 := c112.other W8 (Or.inr (slot_ne (Or.inr (ow hw 194 rfl)) (Or.inr (ow hw 135 rfl)) (by decide) (t := .int) (t' := (.array .int)) (by decide) (by decide)))
  have c114 := c113.ext E16
  have c115 := c114.other W25 (Or.inr (slot_ne (Or.inr (ow hw 194 rfl)) (Or.inr (ow hw 138 rfl)) (by decide) (t := .int) (t' := (.array .long)) (by decide) (by decide)))
  have c116 := c115.other W59 (Or.inl ne_a1_b7)
  have c117 := c116.other W92 (Or.inl ne_a1_b16)
  have c118 := c29.wr W25
  have c119 := c118.wr W59
  have c120 := c119.wr W92
  obtain ⟨T111, h111, X111, e111, W111, st111⟩ := putF X109 hx hZ hown (host := "") (Or.inl (ow hw 193 rfl)) Via.refl e109 c117 c120 (Or.inr ⟨(ow hw 194 rfl), rfl, hnm⟩) (ow hw 118 rfl) (ty := .int) (by decide) rfl rfl (g := (mkF m 152 #[.val (.ref a1), .val (.ref a2), .val (.int cn), .val (.int cn), .val (.long (1 : Int64)), .second, .val (.int ((0 : Int32) + (1 : Int32)))] [(.int cn), (.ref a1)])) rfl rfl (hb hby d18_152)
  have Fw111 := c117.same W111
  have N111 := Fr.snoc X111 N108 g0_a1
  have c122 := F3ob1.ext E7
  have c123 := c122.other W8 (Or.inr (slot_ne (Or.inr (ow hw 196 rfl)) (Or.inr (ow hw 135 rfl)) (by decide) (t := .int) (t' := (.array .int)) (by decide) (by decide)))
  have c124 := c123.ext E16
  have c125 := c124.other W25 (Or.inr (slot_ne (Or.inr (ow hw 196 rfl)) (Or.inr (ow hw 138 rfl)) (by decide) (t := .int) (t' := (.array .long)) (by decide) (by decide)))
  have c126 := c125.other W59 (Or.inl ne_a1_b7)
  have c127 := c126.other W92 (Or.inl ne_a1_b16)
  have c128 := c127.other W111 (Or.inr (slot_ne (Or.inr (ow hw 196 rfl)) (Or.inr (ow hw 194 rfl)) (by decide) (t := .int) (t' := .int) (by decide) (by decide)))
  have c129 := c120.wr W111
  obtain ⟨T121, h121, X121, e121, W121, st121⟩ := putF X111 hx hZ hown (host := "") (Or.inl (ow hw 195 rfl)) Via.refl e111 c128 c129 (Or.inr ⟨(ow hw 196 rfl), rfl, hnm⟩) (ow hw 118 rfl) (ty := .int) (by decide) rfl rfl (g := (mkF m 157 #[.val (.ref a1), .val (.ref a2), .val (.int cn), .val (.int cn), .val (.long (1 : Int64)), .second, .val (.int ((0 : Int32) + (1 : Int32)))] [(.int cn), (.ref a1)])) rfl rfl (hb hby d18_157)
  have Fw121 := c128.same W121
  have N121 := Fr.snoc X121 N111 g0_a1
  have c131 := F4ob1.ext E7
  have c132 := c131.other W8 (Or.inr (slot_ne (Or.inr (ow hw 198 rfl)) (Or.inr (ow hw 135 rfl)) (by decide) (t := .long) (t' := (.array .int)) (by decide) (by decide)))
  have c133 := c132.ext E16
  have c134 := c133.other W25 (Or.inr (slot_ne (Or.inr (ow hw 198 rfl)) (Or.inr (ow hw 138 rfl)) (by decide) (t := .long) (t' := (.array .long)) (by decide) (by decide)))
  have c135 := c134.other W59 (Or.inl ne_a1_b7)
  have c136 := c135.other W92 (Or.inl ne_a1_b16)
  have c137 := c136.other W111 (Or.inr (slot_ne (Or.inr (ow hw 198 rfl)) (Or.inr (ow hw 194 rfl)) (by decide) (t := .long) (t' := .int) (by decide) (by decide)))
  have c138 := c137.other W121 (Or.inr (slot_ne (Or.inr (ow hw 198 rfl)) (Or.inr (ow hw 196 rfl)) (by decide) (t := .long) (t' := .int) (by decide) (by decide)))
  have c139 := c129.wr W121
  obtain ⟨T130, h130, X130, e130, W130, st130⟩ := putF X121 hx hZ hown (host := "") (Or.inl (ow hw 197 rfl)) Via.refl e121 c138 c139 (Or.inr ⟨(ow hw 198 rfl), rfl, hnm⟩) (ow hw 118 rfl) (ty := .long) (by decide) rfl rfl (g := (mkF m 163 #[.val (.ref a1), .val (.ref a2), .val (.int cn), .val (.int cn), .val (.long (1 : Int64)), .second, .val (.int ((0 : Int32) + (1 : Int32)))] [(.long (1 : Int64)), (.ref a1)])) rfl rfl (hb hby d18_163)
  have Fw130 := c138.same W130
  have N130 := Fr.snoc X130 N121 g0_a1
  have kp140 : Keep h0 h130 [a1] := ((((((((((Keep.refl h0 [a1]).ext E7).wr W8 (Or.inl (List.mem_of_getElem? (i := 0) rfl))).ext E16).wr W25 (Or.inl (List.mem_of_getElem? (i := 0) rfl))).wr W59 (Or.inr sz_b7)).wr W92 (Or.inr sz_b16)).wr W111 (Or.inl (List.mem_of_getElem? (i := 0) rfl))).wr W121 (Or.inl (List.mem_of_getElem? (i := 0) rfl))).wr W130 (Or.inl (List.mem_of_getElem? (i := 0) rfl)))
  have c141 := c139.wr W130
  have c142 := c95.other W111 (Or.inr (slot_ne (Or.inr (ow hw 135 rfl)) (Or.inr (ow hw 194 rfl)) (by decide) (t := (.array .int)) (t' := .int) (by decide) (by decide)))
  have c143 := c142.other W121 (Or.inr (slot_ne (Or.inr (ow hw 135 rfl)) (Or.inr (ow hw 196 rfl)) (by decide) (t := (.array .int)) (t' := .int) (by decide) (by decide)))
  have c144 := c143.other W130 (Or.inr (slot_ne (Or.inr (ow hw 135 rfl)) (Or.inr (ow hw 198 rfl)) (by decide) (t := (.array .int)) (t' := .long) (by decide) (by decide)))
  have c145 := c105.other W111 (Or.inr (slot_ne (Or.inr (ow hw 138 rfl)) (Or.inr (ow hw 194 rfl)) (by decide) (t := (.array .long)) (t' := .int) (by decide) (by decide)))
  have c146 := c145.other W121 (Or.inr (slot_ne (Or.inr (ow hw 138 rfl)) (Or.inr (ow hw 196 rfl)) (by decide) (t := (.array .long)) (t' := .int) (by decide) (by decide)))
  have c147 := c146.other W130 (Or.inr (slot_ne (Or.inr (ow hw 138 rfl)) (Or.inr (ow hw 198 rfl)) (by decide) (t := (.array .long)) (t' := .long) (by decide) (by decide)))
  have c148 := Fw111.other W121 (Or.inr (slot_ne (Or.inr (ow hw 194 rfl)) (Or.inr (ow hw 196 rfl)) (by decide) (t := .int) (t' := .int) (by decide) (by decide)))
  have c149 := c148.other W130 (Or.inr (slot_ne (Or.inr (ow hw 194 rfl)) (Or.inr (ow hw 198 rfl)) (by decide) (t := .int) (t' := .long) (by decide) (by decide)))
  have c150 := Fw121.other W130 (Or.inr (slot_ne (Or.inr (ow hw 196 rfl)) (Or.inr (ow hw 198 rfl)) (by decide) (t := .int) (t' := .long) (by decide) (by decide)))
  obtain ⟨fsq, hr, hrun, hended, hW, hsame⟩ := X130.leave (v := none) (fun _ => rfl)
  refine ⟨_, _, pre0 _ ?_, hrun, hended, _, _, rfl, ?_, ⟨_, rfl⟩, hW, hsame.mono (by decide) (by decide)⟩
  · show Steps p.tables e below (s₁.setTop (mkF m 0 #[.val (.ref a1), .val (.ref a2), .unset, .unset, .unset, .unset, .unset] [])) _
    refine XS.aloadN X0.here hx rfl (hb hby d18_0) rfl rfl ?_
    refine st5 _ ?_
    refine XS.aloadN X5.here hx rfl (hb hby d18_4) rfl rfl ?_
    show Steps p.tables e below (T5.setTop (mkF m 5 #[.val (.ref a1), .val (.ref a2), .unset, .unset, .unset, .unset, .unset] [(.ref a1)])) _
    refine XS.aloadN X5.here hx rfl (hb hby d18_5) rfl rfl ?_
    refine st6.trans ?_
    refine st7 _ ?_
    show Steps p.tables e below (T7.setTop (mkF m 13 #[.val (.ref a1), .val (.ref a2), .unset, .unset, .unset, .unset, .unset] [(.ref b7), (.ref a1)])) _
    refine st8 _ ?_
    refine XS.aloadN X8.here hx rfl (hb hby d18_16) rfl rfl ?_
    refine XS.aloadN X8.here hx rfl (hb hby d18_17) rfl rfl ?_
    show Steps p.tables e below (T8.setTop (mkF m 18 #[.val (.ref a1), .val (.ref a2), .unset, .unset, .unset, .unset, .unset] [(.ref a2), (.ref a1)])) _
    refine st13.trans ?_
    refine st16 _ ?_
    refine st25 _ ?_
    show Steps p.tables e below (T25.setTop (mkF m 28 #[.val (.ref a1), .val (.ref a2), .unset, .unset, .unset, .unset, .unset] [])) _
    refine XS.iconst X25.here hx rfl (hb hby d18_28) ?_
    refine XS.istoreN X25.here hx rfl (hb hby d18_29) rfl (l' := #[.val (.ref a1), .val (.ref a2), .val (.int (0 : Int32)), .unset, .unset, .unset, .unset]) rfl ?_
    refine XS.aloadN X25.here hx rfl (hb hby d18_30) rfl rfl ?_
    show Steps p.tables e below (T25.setTop (mkF m 31 #[.val (.ref a1), .val (.ref a2), .val (.int (0 : Int32)), .unset, .unset, .unset, .unset] [(.ref a1)])) _
    refine st30 _ ?_
    show Steps p.tables e below (T30.setTop (mkF m 34 #[.val (.ref a1), .val (.ref a2), .val (.int (0 : Int32)), .unset, .unset, .unset, .unset] [(.ref b7)])) _
    refine X30.arraylength hx (by rw [e30]; exact Arz35.1) (State.isArrayOf_alike hZ.alike Arz35.2.1) (g := (mkF m 34 #[.val (.ref a1), .val (.ref a2), .val (.int (0 : Int32)), .unset, .unset, .unset, .unset] [(.ref b7)])) rfl rfl (hb hby d18_34) _ ?_
    rw [len_of Sz35 Nz35]
    refine XS.ifYes X30.here hx rfl (pc0 := 35) (pc' := 42) rfl (hb hby d18_35) rfl ((if0 _ _).trans (feq ((by decide) : ¬ ((1 : Int32) = (0 : Int32)))).2) (by decide) (by decide) ?_
    refine X30.ldcInt hx hown (mvT hZ (ow hw 139 rfl)) (g := (mkF m 42 #[.val (.ref a1), .val (.ref a2), .val (.int (0 : Int32)), .unset, .unset, .unset, .unset] [])) rfl (hb hby d18_42) _ ?_
    show Steps p.tables e below (T30.setTop (mkF m 44 #[.val (.ref a1), .val (.ref a2), .val (.int (0 : Int32)), .unset, .unset, .unset, .unset] [(.int (2147483647 : Int32))])) _
    refine XS.istoreN X30.here hx rfl (hb hby d18_44) rfl (l' := #[.val (.ref a1), .val (.ref a2), .val (.int (0 : Int32)), .val (.int (2147483647 : Int32)), .unset, .unset, .unset]) rfl ?_
    refine XS.lconst X30.here hx rfl (hb hby d18_45) ?_
    refine XS.lstore X30.here hx rfl (hb hby d18_46) rfl (l' := #[.val (.ref a1), .val (.ref a2), .val (.int (0 : Int32)), .val (.int (2147483647 : Int32)), .val (.long (0 : Int64)), .second, .unset]) rfl ?_
    show Steps p.tables e below (T30.setTop (mkF m 48 #[.val (.ref a1), .val (.ref a2), .val (.int (0 : Int32)), .val (.int (2147483647 : Int32)), .val (.long (0 : Int64)), .second, .unset] [])) _
    refine XS.iconst X30.here hx rfl (hb hby d18_48) ?_
    refine XS.istore X30.here hx rfl (hb hby d18_49) rfl (l' := #[.val (.ref a1), .val (.ref a2), .val (.int (0 : Int32)), .val (.int (2147483647 : Int32)), .val (.long (0 : Int64)), .second, .val (.int (0 : Int32))]) rfl ?_
    refine XS.iload X30.here hx rfl (hb hby d18_51) rfl ?_
    show Steps p.tables e below (T30.setTop (mkF m 53 #[.val (.ref a1), .val (.ref a2), .val (.int (0 : Int32)), .val (.int (2147483647 : Int32)), .val (.long (0 : Int64)), .second, .val (.int (0 : Int32))] [(.int (0 : Int32))])) _
    refine XS.aloadN X30.here hx rfl (hb hby d18_53) rfl rfl ?_
    refine st36 _ ?_
    show Steps p.tables e below (T36.setTop (mkF m 57 #[.val (.ref a1), .val (.ref a2), .val (.int (0 : Int32)), .val (.int (2147483647 : Int32)), .val (.long (0 : Int64)), .second, .val (.int (0 : Int32))] [(.ref b7), (.int (0 : Int32))])) _
    refine X36.arraylength hx (by rw [e36]; exact Arz37.1) (State.isArrayOf_alike hZ.alike Arz37.2.1) (g := (mkF m 57 #[.val (.ref a1), .val (.ref a2), .val (.int (0 : Int32)), .val (.int (2147483647 : Int32)), .val (.long (0 : Int64)), .second, .val (.int (0 : Int32))] [(.ref b7), (.int (0 : Int32))])) rfl rfl (hb hby d18_57) _ ?_
    rw [len_of Sz37 Nz37]
    refine XS.icmpNo X36.here hx rfl (hb hby d18_58) rfl (tlt ((by decide) : (0 : Int32) < (1 : Int32))).2.1 ?_
    refine XS.aloadN X36.here hx rfl (hb hby d18_61) rfl rfl ?_
    show Steps p.tables e below (T36.setTop (mkF m 62 #[.val (.ref a1), .val (.ref a2), .val (.int (0 : Int32)), .val (.int (2147483647 : Int32)), .val (.long (0 : Int64)), .second, .val (.int (0 : Int32))] [(.ref a1)])) _
    refine st38 _ ?_
    refine XS.iload X38.here hx rfl (hb hby d18_65) rfl ?_
    refine XS.aloadN X38.here hx rfl (hb hby d18_67) rfl rfl ?_
    show Steps p.tables e below (T38.setTop (mkF m 68 #[.val (.ref a1), .val (.ref a2), .val (.int (0 : Int32)), .val (.int (2147483647 : Int32)), .val (.long (0 : Int64)), .second, .val (.int (0 : Int32))] [(.ref a2), (.int (0 : Int32)), (.ref b7)])) _
    refine XS.iload X38.here hx rfl (hb hby d18_68) rfl ?_
    refine st49.trans ?_
    refine st52 _ ?_
    show Steps p.tables e below (T52.setTop (mkF m 78 #[.val (.ref a1), .val (.ref a2), .val (.int (0 : Int32)), .val (.int (2147483647 : Int32)), .val (.long (0 : Int64)), .second, .val (.int (0 : Int32))] [(.ref ru), (.int (0 : Int32)), (.ref b7)])) _
    refine st57.trans ?_
    refine st59 _ ?_
    refine XS.aloadN X59.here hx rfl (hb hby d18_82) rfl rfl ?_
    show Steps p.tables e below (T59.setTop (mkF m 83 #[.val (.ref a1), .val (.ref a2), .val (.int (0 : Int32)), .val (.int (2147483647 : Int32)), .val (.long (0 : Int64)), .second, .val (.int (0 : Int32))] [(.ref a1)])) _
    refine st60 _ ?_
    refine XS.iload X60.here hx rfl (hb hby d18_86) rfl ?_
    refine XS.aloadN X60.here hx rfl (hb hby d18_88) rfl rfl ?_
    show Steps p.tables e below (T60.setTop (mkF m 89 #[.val (.ref a1), .val (.ref a2), .val (.int (0 : Int32)), .val (.int (2147483647 : Int32)), .val (.long (0 : Int64)), .second, .val (.int (0 : Int32))] [(.ref a2), (.int (0 : Int32)), (.ref b16)])) _
    refine XS.iload X60.here hx rfl (hb hby d18_89) rfl ?_
    refine st66.trans ?_
    refine st68 _ ?_
    show Steps p.tables e below (T68.setTop (mkF m 99 #[.val (.ref a1), .val (.ref a2), .val (.int (0 : Int32)), .val (.int (2147483647 : Int32)), .val (.long (0 : Int64)), .second, .val (.int (0 : Int32))] [(.ref ru), (.int (0 : Int32)), (.ref b16)])) _
    refine st74.trans ?_
    refine st85.trans ?_
    refine st92 _ ?_
    show Steps p.tables e below (T92.setTop (mkF m 106 #[.val (.ref a1), .val (.ref a2), .val (.int (0 : Int32)), .val (.int (2147483647 : Int32)), .val (.long (0 : Int64)), .second, .val (.int (0 : Int32))] [])) _
    refine XS.iloadN X92.here hx rfl (hb hby d18_106) rfl ?_
    refine XS.aloadN X92.here hx rfl (hb hby d18_107) rfl rfl ?_
    refine st93 _ ?_
    show Steps p.tables e below (T93.setTop (mkF m 111 #[.val (.ref a1), .val (.ref a2), .val (.int (0 : Int32)), .val (.int (2147483647 : Int32)), .val (.long (0 : Int64)), .second, .val (.int (0 : Int32))] [(.ref b7), (.int (0 : Int32))])) _
    refine XS.iload X93.here hx rfl (hb hby d18_111) rfl ?_
    refine X93.iaload hx (j := (0 : Int32)) (v := (.int cn)) (by rw [e93]; exact Arz97.1) (State.isArrayOf_alike hZ.alike Arz97.2.1) Arz97.2.2 hin98 hat98 (g := (mkF m 113 #[.val (.ref a1), .val (.ref a2), .val (.int (0 : Int32)), .val (.int (2147483647 : Int32)), .val (.long (0 : Int64)), .second, .val (.int (0 : Int32))] [(.int (0 : Int32)), (.ref b7), (.int (0 : Int32))])) rfl rfl (hb hby d18_113) _ ?_
    refine st99 _ ?_
    show Steps p.tables e below (T99.setTop (mkF m 117 #[.val (.ref a1), .val (.ref a2), .val (.int (0 : Int32)), .val (.int (2147483647 : Int32)), .val (.long (0 : Int64)), .second, .val (.int (0 : Int32))] [(.int cn)])) _
    refine XS.istoreN X99.here hx rfl (hb hby d18_117) rfl (l' := #[.val (.ref a1), .val (.ref a2), .val (.int cn), .val (.int (2147483647 : Int32)), .val (.long (0 : Int64)), .second, .val (.int (0 : Int32))]) rfl ?_
    refine XS.iloadN X99.here hx rfl (hb hby d18_118) rfl ?_
    refine XS.aloadN X99.here hx rfl (hb hby d18_119) rfl rfl ?_
    show Steps p.tables e below (T99.setTop (mkF m 120 #[.val (.ref a1), .val (.ref a2), .val (.int cn), .val (.int (2147483647 : Int32)), .val (.long (0 : Int64)), .second, .val (.int (0 : Int32))] [(.ref a1), (.int (2147483647 : Int32))])) _
    refine st100 _ ?_
    refine XS.iload X100.here hx rfl (hb hby d18_123) rfl ?_
    refine X100.iaload hx (j := (0 : Int32)) (v := (.int cn)) (by rw [e100]; exact Arz101.1) (State.isArrayOf_alike hZ.alike Arz101.2.1) Arz101.2.2 hin102 hat102 (g := (mkF m 125 #[.val (.ref a1), .val (.ref a2), .val (.int cn), .val (.int (2147483647 : Int32)), .val (.long (0 : Int64)), .second, .val (.int (0 : Int32))] [(.int (0 : Int32)), (.ref b7), (.int (2147483647 : Int32))])) rfl rfl (hb hby d18_125) _ ?_
    show Steps p.tables e below (T100.setTop (mkF m 126 #[.val (.ref a1), .val (.ref a2), .val (.int cn), .val (.int (2147483647 : Int32)), .val (.long (0 : Int64)), .second, .val (.int (0 : Int32))] [(.int cn), (.int (2147483647 : Int32))])) _
    refine st103 _ ?_
    refine XS.istoreN X103.here hx rfl (hb hby d18_129) rfl (l' := #[.val (.ref a1), .val (.ref a2), .val (.int cn), .val (.int cn), .val (.long (0 : Int64)), .second, .val (.int (0 : Int32))]) rfl ?_
    refine XS.lload X103.here hx rfl (hb hby d18_130) rfl ?_
    show Steps p.tables e below (T103.setTop (mkF m 132 #[.val (.ref a1), .val (.ref a2), .val (.int cn), .val (.int cn), .val (.long (0 : Int64)), .second, .val (.int (0 : Int32))] [(.long (0 : Int64))])) _
    refine XS.aloadN X103.here hx rfl (hb hby d18_132) rfl rfl ?_
    refine st104 _ ?_
    refine XS.iload X104.here hx rfl (hb hby d18_136) rfl ?_
    show Steps p.tables e below (T104.setTop (mkF m 138 #[.val (.ref a1), .val (.ref a2), .val (.int cn), .val (.int cn), .val (.long (0 : Int64)), .second, .val (.int (0 : Int32))] [(.int (0 : Int32)), (.ref b16), (.long (0 : Int64))])) _
    refine X104.laload hx (j := (0 : Int32)) (v := (.long (1 : Int64))) (by rw [e104]; exact Arz106.1) (State.isArrayOf_alike hZ.alike Arz106.2.1) Arz106.2.2 hin107 hat107 (g := (mkF m 138 #[.val (.ref a1), .val (.ref a2), .val (.int cn), .val (.int cn), .val (.long (0 : Int64)), .second, .val (.int (0 : Int32))] [(.int (0 : Int32)), (.ref b16), (.long (0 : Int64))])) rfl rfl (hb hby d18_138) _ ?_
    refine st108 _ ?_
    refine XS.lstore X108.here hx rfl (hb hby d18_142) rfl (l' := #[.val (.ref a1), .val (.ref a2), .val (.int cn), .val (.int cn), .val (.long (1 : Int64)), .second, .val (.int (0 : Int32))]) rfl ?_
    show Steps p.tables e below (T108.setTop (mkF m 144 #[.val (.ref a1), .val (.ref a2), .val (.int cn), .val (.int cn), .val (.long (1 : Int64)), .second, .val (.int (0 : Int32))] [])) _
    refine XS.iinc X108.here hx rfl (hb hby d18_144) rfl (l' := #[.val (.ref a1), .val (.ref a2), .val (.int cn), .val (.int cn), .val (.long (1 : Int64)), .second, .val (.int ((0 : Int32) + (1 : Int32)))]) rfl ?_
    refine XS.goto X108.here hx rfl (pc0 := 147) (pc' := 51) rfl (hb hby d18_147) (by decide) (by decide) ?_
    refine XS.iload X108.here hx rfl (hb hby d18_51) rfl ?_
    show Steps p.tables e below (T108.setTop (mkF m 53 #[.val (.ref a1), .val (.ref a2), .val (.int cn), .val (.int cn), .val (.long (1 : Int64)), .second, .val (.int ((0 : Int32) + (1 : Int32)))] [(.int ((0 : Int32) + (1 : Int32)))])) _
    refine XS.aloadN X108.here hx rfl (hb hby d18_53) rfl rfl ?_
    refine st109 _ ?_
    show Steps p.tables e below (T109.setTop (mkF m 57 #[.val (.ref a1), .val (.ref a2), .val (.int cn), .val (.int cn), .val (.long (1 : Int64)), .second, .val (.int ((0 : Int32) + (1 : Int32)))] [(.ref b7), (.int ((0 : Int32) + (1 : Int32)))])) _
    refine X109.arraylength hx (by rw [e109]; exact Arz110.1) (State.isArrayOf_alike hZ.alike Arz110.2.1) (g := (mkF m 57 #[.val (.ref a1), .val (.ref a2), .val (.int cn), .val (.int cn), .val (.long (1 : Int64)), .second, .val (.int ((0 : Int32) + (1 : Int32)))] [(.ref b7), (.int ((0 : Int32) + (1 : Int32)))])) rfl rfl (hb hby d18_57) _ ?_
    rw [len_of Sz110 Nz110]
    refine XS.icmpYes X109.here hx rfl (pc0 := 58) (pc' := 150) rfl (hb hby d18_58) rfl (flt ((by decide) : ¬ (((0 : Int32) + (1 : Int32)) < (1 : Int32)))).2.1 (by decide) (by decide) ?_
    refine XS.aloadN X109.here hx rfl (hb hby d18_150) rfl rfl ?_
    show Steps p.tables e below (T109.setTop (mkF m 151 #[.val (.ref a1), .val (.ref a2), .val (.int cn), .val (.int cn), .val (.long (1 : Int64)), .second, .val (.int ((0 : Int32) + (1 : Int32)))] [(.ref a1)])) _
    refine XS.iloadN X109.here hx rfl (hb hby d18_151) rfl ?_
    refine st111 _ ?_
    refine XS.aloadN X111.here hx rfl (hb hby d18_155) rfl rfl ?_
    show Steps p.tables e below (T111.setTop (mkF m 156 #[.val (.ref a1), .val (.ref a2), .val (.int cn), .val (.int cn), .val (.long (1 : Int64)), .second, .val (.int ((0 : Int32) + (1 : Int32)))] [(.ref a1)])) _
    refine XS.iloadN X111.here hx rfl (hb hby d18_156) rfl ?_
    refine st121 _ ?_
    refine XS.aloadN X121.here hx rfl (hb hby d18_160) rfl rfl ?_
    show Steps p.tables e below (T121.setTop (mkF m 161 #[.val (.ref a1), .val (.ref a2), .val (.int cn), .val (.int cn), .val (.long (1 : Int64)), .second, .val (.int ((0 : Int32) + (1 : Int32)))] [(.ref a1)])) _
    refine XS.lload X121.here hx rfl (hb hby d18_161) rfl ?_
    refine st130 _ ?_
    show Steps p.tables e below (T130.setTop (mkF m 166 #[.val (.ref a1), .val (.ref a2), .val (.int cn), .val (.int cn), .val (.long (1 : Int64)), .second, .val (.int ((0 : Int32) + (1 : Int32)))] [])) _
    exact X130.returnOut hx Bd.returns (hb hby d18_166) hr
  · show QO (fun h => ∃ c1 c2, RsAt Z h a1 (.ref c1) (.ref c2) (.int cn) (.int cn) (.long (1 : Int64))) [a1] h0 n0 _ T130.heap _
    rw [e130]
    exact ⟨rfl, N130, kp140, _, _, ⟨c141, c144, c147, c149, c150, Fw130⟩⟩
/-- the long[] at a has n places; place j holds f j -/
def FA (Z : State) (h : Heap) (a : Addr) (n : Nat) (f : Nat → Int64) : Prop := ∃ cl : Cell, Arr Z h a cl .long ∧ cl.slots.size = n ∧ ∀ j, j < n → cl.slots[j]? = some (.long (f j))
theorem FA.lt {Z : State} {h : Heap} {a : Addr} {n : Nat} {f : Nat → Int64} (F : FA Z h a n f) : a < h.size := by obtain ⟨c, A, -⟩ := F; exact A.lt
theorem FA.ext {Z : State} {h h' : Heap} {a : Addr} {n : Nat} {f : Nat → Int64} (F : FA Z h a n f) (E : Ext h h') : FA Z h' a n f := by obtain ⟨c, A, r⟩ := F; exact ⟨c, A.ext E, r⟩
theorem FA.other {Z : State} {h h' : Heap} {a b : Addr} {n sl : Nat} {f : Nat → Int64} {v : Value} (F : FA Z h b n f) (W : Wr h h' a sl v) (q : b ≠ a) : FA Z h' b n f := by obtain ⟨c, A, r⟩ := F; exact ⟨c, A.other W q, r⟩
theorem FA.keep {Z : State} {h h' : Heap} {a : Addr} {n : Nat} {f : Nat → Int64} {ws : List Addr} (F : FA Z h a n f) (K : Keep h h' ws) (q : a ∉ ws) : FA Z h' a n f := by obtain ⟨c, A, r⟩ := F; exact ⟨c, ⟨K.2.1 a c A.1 q, A.2⟩, r⟩
theorem FA.congr {Z : State} {h : Heap} {a : Addr} {n : Nat} {f g : Nat → Int64} (F : FA Z h a n f) (e : ∀ j, j < n → f j = g j) : FA Z h a n g := by obtain ⟨c, A, S, H⟩ := F; exact ⟨c, A, S, fun j hj => by rw [← e j hj]; exact H j hj⟩
theorem FA.setv {Z : State} {h h' : Heap} {a : Addr} {n i : Nat} {f : Nat → Int64} {v : Int64} {cl : Cell} (A : Arr Z h a cl .long) (S : cl.slots.size = n) (H : ∀ j, j < n → cl.slots[j]? = some (.long (f j))) (W : Wr h h' a i (.long v)) : FA Z h' a n (fun j => if j = i then v else f j) := by
  refine ⟨cl.setSlot i (.long v), A.same W, by simp [Cell.setSlot, S], fun j hj => ?_⟩
  show (cl.slots.setIfInBounds i (.long v))[j]? = some (.long (if j = i then v else f j))
  by_cases q : j = i
  · subst q; simp [Array.getElem?_setIfInBounds, S, hj]
  · rw [if_neg q, Array.getElem?_setIfInBounds_ne (Ne.symm q)]; exact H j hj
theorem FA.ofArv {Z : State} {h : Heap} {a : Addr} {k : ClassId} {z : Int32} {n : Nat} (V : Arv Z h a k .long z [] (defaultValue .long)) (hz : z.toNatClampNeg = n) : FA Z h a n (fun _ => 0) := by
  obtain ⟨c, A, -, S, -, H, -⟩ := V
  exact ⟨c, A, S.trans hz, fun j hj => H j (by rw [S, hz]; exact hj)⟩
theorem own_of {i : Nat} (h : i < 2 ^ 31) : (Int32.ofNat i).toInt = i := len_toInt h
theorem own_lt {i j : Nat} (hi : i < 2 ^ 31) (hj : j < 2 ^ 31) : Int32.ofNat i < Int32.ofNat j ↔ i < j := by rw [Int32.lt_iff_toInt_lt, own_of hi, own_of hj]; omega
theorem own_nn {i : Nat} (hi : i < 2 ^ 31) : ¬ (Int32.ofNat i < 0) := by
  rw [Int32.lt_iff_toInt_lt, own_of hi]
  have e : (0 : Int32).toInt = 0 := by decide
  omega
theorem own_cl {i : Nat} (hi : i < 2 ^ 31) : (Int32.ofNat i).toNatClampNeg = i := by
  show (Int32.ofNat i).toInt.toNat = i
  rw [own_of hi]; rfl
theorem own_add {i j : Nat} (h : i + j < 2 ^ 31) : Int32.ofNat i + Int32.ofNat j = Int32.ofNat (i + j) := by
  apply Int32.toInt_inj.mp
  have a1 := c_iadd (Int32.ofNat i) (Int32.ofNat j)
  have a2 := rng32 (Int32.ofNat i + Int32.ofNat j)
  have a3 := own_of (i := i) (by omega)
  have a4 := own_of (i := j) (by omega)
  have a5 := own_of h
  omega
theorem own_sub {i j : Nat} (hj : j ≤ i) (h : i < 2 ^ 31) : Int32.ofNat i - Int32.ofNat j = Int32.ofNat (i - j) := by
  apply Int32.toInt_inj.mp
  have a1 := c_isub (Int32.ofNat i) (Int32.ofNat j)
  have a2 := rng32 (Int32.ofNat i - Int32.ofNat j)
  have a3 := own_of h
  have a4 := own_of (i := j) (by omega)
  have a5 := own_of (i := i - j) (by omega)
  omega
def own_md (m n : Nat) : Nat := if m < n then m else m - n
theorem own_nmin (z : Int64) : ¬ (z < (-9223372036854775808 : Int64)) := by
  intro h
  rw [Int64.lt_iff_toInt_lt] at h
  have e : ((-9223372036854775808 : Int64)).toInt = -9223372036854775808 := by decide
  have := rng64 z
  omega
theorem d34_6 : decode jdk_65_method_101_code 6 = .ok (.iload_n 3, 1) := by decide +kernel
theorem d34_7 : decode jdk_65_method_101_code 7 = .ok (.iload 4, 2) := by decide +kernel
theorem d34_9 : decode jdk_65_method_101_code 9 = .ok (.if_icmp .ge 13, 3) := by decide +kernel
theorem d34_12 : decode jdk_65_method_101_code 12 = .ok (.aload_n 0, 1) := by decide +kernel
theorem d34_13 : decode jdk_65_method_101_code 13 = .ok (.iload_n 3, 1) := by decide +kernel
theorem d34_14 : decode jdk_65_method_101_code 14 = .ok (.lload_n 1, 1) := by decide +kernel
theorem d34_15 : decode jdk_65_method_101_code 15 = .ok (.lastore, 1) := by decide +kernel
theorem d34_16 : decode jdk_65_method_101_code 16 = .ok (.iinc 3 1, 3) := by decide +kernel
theorem d34_19 : decode jdk_65_method_101_code 19 = .ok (.goto (-13), 3) := by decide +kernel
set_option maxRecDepth 65536 in
set_option maxHeartbeats 40000000 in
theorem tn34 {p : Program} {l : Launch} {e : Env} {s : State} {m : MethodId} {args : Array Value} {below : List Frame} {meth : Method} {c : Code} {T0 : State} {locs : List Loc} {cells slots : Nat} {Z : State} {a0 : Array Value} {h0 : Heap} {n0 : Nat} (a1 : Addr) (v : Int64) (n : Nat) (i : Nat) (f : Nat → Int64)
    (X0 : Stand p l e rr0 s m args below meth c T0 locs cells slots) (hx : p.tables.exec = Jvm.exec) (hZ : Z.Warmed39 s.vm) (hw : ∀ d ∈ tables_1, d.before a0 Z = true) (hby : c.code = jdk_65_method_101_code) (hml : c.maxLocals = 5) (hown : s.vm.findClass "java/util/Arrays" = some m.cls) (e0 : T0.heap = h0) (hcl : cells ≤ rr0.cells) (hsl : slots ≤ rr0.slots) (Z0 : n0 ≤ h0.size) (N0 : Fr n0 locs) (g0_a1 : n0 ≤ a1) (FAa : FA Z h0 a1 n f) (hn : n ≤ 16) (hi : i < n) :
    ∃ (T' : State) (h' : Heap) (L' : List Loc), Stand p l e rr0 s m args below meth c T' L' cells slots ∧ T'.heap = h' ∧ Fr n0 L' ∧ (FA Z h' a1 n (fun j => if j = i then v else f j) ∧ Keep h0 h' [a1]) ∧
      ∀ target, Steps p.tables e below (T'.setTop (mkF m 6 #[.val (.ref a1), .val (.long v), .second, .val (.int ((Int32.ofNat i) + (1 : Int32))), .val (.int (Int32.ofNat n))] [])) target → Steps p.tables e below (T0.setTop (mkF m 6 #[.val (.ref a1), .val (.long v), .second, .val (.int (Int32.ofNat i)), .val (.int (Int32.ofNat n))] [])) target := by
  obtain ⟨clq1, Arq1, Sq1, Hq1⟩ := id FAa
  have hin2 : ¬ ((Int32.ofNat i) < 0 ∨ clq1.slots.size ≤ ((Int32.ofNat i)).toNatClampNeg) := fun z => z.elim (own_nn (by omega)) (fun z => by rw [Sq1, own_cl (by omega)] at z; have := hi; omega)
  obtain ⟨T2, h2, X2, e2, W2, st2⟩ := stJ X0 hx hZ e0 Arq1 (j := (Int32.ofNat i)) hin2 (g := (mkF m 15 #[.val (.ref a1), .val (.long v), .second, .val (.int (Int32.ofNat i)), .val (.int (Int32.ofNat n))] [(.long v), (.int (Int32.ofNat i)), (.ref a1)])) rfl rfl (hb hby d34_15)
  have W2' := W2
  rw [own_cl (by omega)] at W2'
  have V2 := FA.setv Arq1 Sq1 Hq1 W2'
  have N2 := Fr.snoc X2 N0 g0_a1
  have kp3 : Keep h0 h2 [a1] := ((Keep.refl h0 [a1]).wr W2 (Or.inl (List.mem_of_getElem? (i := 0) rfl)))
  refine ⟨T2, _, _, X2, e2, N2, ⟨V2, kp3⟩, fun target kt => ?_⟩
  show Steps p.tables e below (T0.setTop (mkF m 6 #[.val (.ref a1), .val (.long v), .second, .val (.int (Int32.ofNat i)), .val (.int (Int32.ofNat n))] [])) _
  refine XS.iloadN X0.here hx rfl (hb hby d34_6) rfl ?_
  refine XS.iload X0.here hx rfl (hb hby d34_7) rfl ?_
  refine XS.icmpNo X0.here hx rfl (hb hby d34_9) rfl (tlt (((own_lt (by omega) (by omega)).mpr hi) : (Int32.ofNat i) < (Int32.ofNat n))).2.1 ?_
  show Steps p.tables e below (T0.setTop (mkF m 12 #[.val (.ref a1), .val (.long v), .second, .val (.int (Int32.ofNat i)), .val (.int (Int32.ofNat n))] [])) _
  refine XS.aloadN X0.here hx rfl (hb hby d34_12) rfl rfl ?_
  refine XS.iloadN X0.here hx rfl (hb hby d34_13) rfl ?_
  refine XS.lloadN X0.here hx rfl (hb hby d34_14) rfl ?_
  show Steps p.tables e below (T0.setTop (mkF m 15 #[.val (.ref a1), .val (.long v), .second, .val (.int (Int32.ofNat i)), .val (.int (Int32.ofNat n))] [(.long v), (.int (Int32.ofNat i)), (.ref a1)])) _
  refine st2 _ ?_
  refine XS.iinc X2.here hx rfl (hb hby d34_16) rfl (l' := #[.val (.ref a1), .val (.long v), .second, .val (.int ((Int32.ofNat i) + (1 : Int32))), .val (.int (Int32.ofNat n))]) rfl ?_
  refine XS.goto X2.here hx rfl (pc0 := 19) (pc' := 6) rfl (hb hby d34_19) (by decide) (by decide) ?_
  exact kt
set_option maxRecDepth 65536 in
set_option maxHeartbeats 40000000 in
theorem lv34 {p : Program} {l : Launch} {e : Env} {s : State} {m : MethodId} {args : Array Value} {below : List Frame} {meth : Method} {c : Code} {T0 : State} {locs : List Loc} {cells slots : Nat} {Z : State} {a0 : Array Value} {h0 : Heap} (a1 : Addr) (v : Int64) (n : Nat)
    (X0 : Stand p l e rr0 s m args below meth c T0 locs cells slots) (hx : p.tables.exec = Jvm.exec) (hZ : Z.Warmed39 s.vm) (hw : ∀ d ∈ tables_1, d.before a0 Z = true) (hby : c.code = jdk_65_method_101_code) (hml : c.maxLocals = 5) (hown : s.vm.findClass "java/util/Arrays" = some m.cls) (e0 : T0.heap = h0) (hcl : cells ≤ rr0.cells) (hsl : slots ≤ rr0.slots) :
    ∀ target, Steps p.tables e below (T0.setTop (mkF m 22 #[.val (.ref a1), .val (.long v), .second, .val (.int (Int32.ofNat n)), .val (.int (Int32.ofNat n))] [])) target → Steps p.tables e below (T0.setTop (mkF m 6 #[.val (.ref a1), .val (.long v), .second, .val (.int (Int32.ofNat n)), .val (.int (Int32.ofNat n))] [])) target := by
  intro target kt
  show Steps p.tables e below (T0.setTop (mkF m 6 #[.val (.ref a1), .val (.long v), .second, .val (.int (Int32.ofNat n)), .val (.int (Int32.ofNat n))] [])) _
  refine XS.iloadN X0.here hx rfl (hb hby d34_6) rfl ?_
  refine XS.iload X0.here hx rfl (hb hby d34_7) rfl ?_
  refine XS.icmpYes X0.here hx rfl (pc0 := 9) (pc' := 22) rfl (hb hby d34_9) rfl (flt ((fun z => absurd z (by rw [Int32.lt_iff_toInt_lt]; omega)) : ¬ ((Int32.ofNat n) < (Int32.ofNat n)))).2.1 (by decide) (by decide) ?_
  exact kt
set_option maxRecDepth 65536 in
set_option maxHeartbeats 40000000 in
theorem loop34 {p : Program} {l : Launch} {e : Env} {s : State} {m : MethodId} {args : Array Value} {below : List Frame} {meth : Method} {c : Code} {cells slots : Nat} {Z : State} {a0 : Array Value} {n0 : Nat} (a1 : Addr) (v : Int64) (n : Nat)
    (hx : p.tables.exec = Jvm.exec) (hZ : Z.Warmed39 s.vm) (hw : ∀ d ∈ tables_1, d.before a0 Z = true) (hby : c.code = jdk_65_method_101_code) (hml : c.maxLocals = 5) (hown : s.vm.findClass "java/util/Arrays" = some m.cls) (hcl : cells ≤ rr0.cells) (hsl : slots ≤ rr0.slots) (g0_a1 : n0 ≤ a1) (hn : n ≤ 16) :
    ∀ (k i : Nat) (f : Nat → Int64) (T0 : State) (h0 : Heap) (locs : List Loc), i + k = n → (∀ j, j < i → f j = v) → Stand p l e rr0 s m args below meth c T0 locs cells slots → T0.heap = h0 → n0 ≤ h0.size → Fr n0 locs → FA Z h0 a1 n f →
    ∃ (T' : State) (h' : Heap) (L' : List Loc), Stand p l e rr0 s m args below meth c T' L' cells slots ∧ T'.heap = h' ∧ Fr n0 L' ∧ (FA Z h' a1 n (fun _ => v) ∧ Keep h0 h' [a1]) ∧
      ∀ target, Steps p.tables e below (T'.setTop (mkF m 22 #[.val (.ref a1), .val (.long v), .second, .val (.int (Int32.ofNat n)), .val (.int (Int32.ofNat n))] [])) target → Steps p.tables e below (T0.setTop (mkF m 6 #[.val (.ref a1), .val (.long v), .second, .val (.int (Int32.ofNat i)), .val (.int (Int32.ofNat n))] [])) target := by
  intro k
  induction k with
  | zero =>
    intro i f T0 h0 locs hik hf X e0 Z0 N0 F
    obtain rfl : i = n := by omega
    exact ⟨T0, h0, locs, X, e0, N0, ⟨F.congr hf, Keep.refl _ _⟩, lv34 a1 v i X hx hZ hw hby hml hown e0 hcl hsl⟩
  | succ k ih =>
    intro i f T0 h0 locs hik hf X e0 Z0 N0 F
    obtain ⟨T1, h1, L1, X1, e1, N1, ⟨F1, K1⟩, st1⟩ := tn34 a1 v n i f X hx hZ hw hby hml hown e0 hcl hsl Z0 N0 g0_a1 F hn (by omega)
    rw [show Int32.ofNat i + (1 : Int32) = Int32.ofNat (i + 1) from own_add (j := 1) (by omega)] at st1
    obtain ⟨T2, h2, L2, X2, e2, N2, ⟨F2, K2⟩, st2⟩ := ih (i + 1) _ T1 h1 L1 (by omega) (fun j hj => by
      show (if j = i then v else f j) = v
      by_cases q : j = i
      · rw [if_pos q]
      · rw [if_neg q]; exact hf j (by omega)) X1 e1 (Nat.le_trans Z0 K1.1) N1 F1
    exact ⟨T2, h2, L2, X2, e2, N2, ⟨F2, K1.trans K2 (allS (Or.inl (List.mem_of_getElem? (i := 0) rfl)) all0)⟩, fun target kt => st1 _ (st2 _ kt)⟩
theorem d34_0 : decode jdk_65_method_101_code 0 = .ok (.iconst 0, 1) := by decide +kernel
theorem d34_1 : decode jdk_65_method_101_code 1 = .ok (.istore_n 3, 1) := by decide +kernel
theorem d34_2 : decode jdk_65_method_101_code 2 = .ok (.aload_n 0, 1) := by decide +kernel
theorem d34_3 : decode jdk_65_method_101_code 3 = .ok (.arraylength, 1) := by decide +kernel
theorem d34_4 : decode jdk_65_method_101_code 4 = .ok (.istore 4, 2) := by decide +kernel
theorem d34_22 : decode jdk_65_method_101_code 22 = .ok (.return_, 1) := by decide +kernel
theorem pn_java_util_Arrays : plainName "java/util/Arrays" = true := by first | (simp [plainName, overriddenIn]; done) | decide +kernel
theorem ef_34 (m : MethodId) (x0 : Addr) (x1 : Int64) : entryFrame m #[(.ref x0), (.long x1)] 5 = mkF m 0 #[.val (.ref x0), .val (.long x1), .second, .unset, .unset] [] := by first | (simp [entryFrame, mkF, argsToLocals, Value.category]; done) | rfl
abbrev nm_34 : MethodName := ⟨"java/util/Arrays", "fill", "([JJ)V"⟩
set_option maxRecDepth 65536 in
set_option maxHeartbeats 40000000 in
theorem rm34 (l : Launch) (Z : State) (a0 : Array Value) (hw : ∀ d ∈ tables_1, d.before a0 Z = true) (ws : List Jvm.Cond) (a1 : Addr) (v : Int64) (n : Nat) (f : Nat → Int64) (h0 : Heap) (n0 : Nat) (Z0 : n0 ≤ h0.size) (g0_a1 : n0 ≤ a1) (FAa : FA Z h0 a1 n f) (hn : n ≤ 16) :
    MetFree l nm_34 (head1 (Jvm.Cond.code nm_34 jdk_65_method_101_code 5 none :: ws) rr0) (fun aa zU => aa = #[(.ref a1), (.long v)] ∧ Z.Warmed39 zU.vm ∧ zU.heap = h0) (fun _ _ _ _ _ => True) (fun _ zU zo zU' => ∃ zv zL, zo = .returned zv ∧ QO (fun h => FA Z h a1 n (fun _ => v)) [a1] h0 n0 zv zU'.heap zL ∧ FrameEnd zU zo zU' zL rr0.cells rr0.slots) := by
  refine MetFree.of_bodySF (plainFor_of_name pn_java_util_Arrays) hisR ?_
  intro p e s m args below meth c s₁ Bd hml0 hP hK
  obtain ⟨rfl, hZ, hh⟩ := hP
  have hx := Bd.exec
  have hby := Bd.bytes
  have hml : c.maxLocals = 5 := hml0
  have hown : s.vm.findClass "java/util/Arrays" = some m.cls := findClass_of_methodNamed Bd.named
  have hnm := (name_of_methodNamed Bd.named Bd.method).1
  have X0 : Stand p l e rr0 s m #[(.ref a1), (.long v)] below meth c s₁ [] 0 0 := Stand.of_body Bd
  have e0 : s₁.heap = h0 := by rw [← hh, Bd.state]; rfl
  have N0 := Fr.nil n0
  have pre0 : ∀ t, Steps p.tables e below (s₁.setTop (mkF m 0 #[.val (.ref a1), .val (.long v), .second, .unset, .unset] [])) t → Steps p.tables e below (s₁.setTop (entryFrame m #[(.ref a1), (.long v)] 5)) t := fun t k => castTop (ef_34 m a1 v) k
  obtain ⟨clq51, Arq51, Sq51, Hq51⟩ := id FAa
  obtain ⟨T1, h1, L1, X1, e1, N1, ⟨F1, K1⟩, st1⟩ := loop34 a1 v n hx hZ hw hby hml hown (Nat.le_refl _) (Nat.le_refl _) g0_a1 hn n 0 f s₁ h0 [] (by omega) (fun j hj => absurd hj (Nat.not_lt_zero _)) X0 e0 Z0 N0 FAa
  have kp52 : Keep h0 h1 [a1] := ((Keep.refl h0 [a1]).trans K1 (allS (Or.inl (List.mem_of_getElem? (i := 0) rfl)) all0))
  obtain ⟨fsq, hr, hrun, hended, hW, hsame⟩ := X1.leave (v := none) (fun _ => rfl)
  refine ⟨_, _, pre0 _ ?_, hrun, hended, _, _, rfl, ?_, ⟨_, rfl⟩, hW, hsame.mono (by decide) (by decide)⟩
  · show Steps p.tables e below (s₁.setTop (mkF m 0 #[.val (.ref a1), .val (.long v), .second, .unset, .unset] [])) _
    refine XS.iconst X0.here hx rfl (hb hby d34_0) ?_
    refine XS.istoreN X0.here hx rfl (hb hby d34_1) rfl (l' := #[.val (.ref a1), .val (.long v), .second, .val (.int (0 : Int32)), .unset]) rfl ?_
    refine XS.aloadN X0.here hx rfl (hb hby d34_2) rfl rfl ?_
    show Steps p.tables e below (s₁.setTop (mkF m 3 #[.val (.ref a1), .val (.long v), .second, .val (.int (0 : Int32)), .unset] [(.ref a1)])) _
    refine X0.arraylength hx (by rw [e0]; exact Arq51.1) (State.isArrayOf_alike hZ.alike Arq51.2.1) (g := (mkF m 3 #[.val (.ref a1), .val (.long v), .second, .val (.int (0 : Int32)), .unset] [(.ref a1)])) rfl rfl (hb hby d34_3) _ ?_
    rw [Sq51]
    show Steps p.tables e below (s₁.setTop (mkF m 4 #[.val (.ref a1), .val (.long v), .second, .val (.int (0 : Int32)), .unset] [(.int (Int32.ofNat n))])) _
    refine XS.istore X0.here hx rfl (hb hby d34_4) rfl (l' := #[.val (.ref a1), .val (.long v), .second, .val (.int (0 : Int32)), .val (.int (Int32.ofNat n))]) rfl ?_
    show Steps p.tables e below (s₁.setTop (mkF m 6 #[.val (.ref a1), .val (.long v), .second, .val (.int (0 : Int32)), .val (.int (Int32.ofNat n))] [])) _
    refine st1 _ ?_
    show Steps p.tables e below (T1.setTop (mkF m 22 #[.val (.ref a1), .val (.long v), .second, .val (.int (Int32.ofNat n)), .val (.int (Int32.ofNat n))] [])) _
    exact X1.returnOut hx Bd.returns (hb hby d34_22) hr
  · show QO (fun h => FA Z h a1 n (fun _ => v)) [a1] h0 n0 _ T1.heap _
    rw [e1]
    exact ⟨rfl, N1, kp52, F1⟩
theorem d33_0 : decode prog_18_method_6_code 0 = .ok (.aload_n 0, 1) := by decide +kernel
theorem d33_1 : decode prog_18_method_6_code 1 = .ok (.getfield 57, 3) := by decide +kernel
theorem d33_4 : decode prog_18_method_6_code 4 = .ok (.ireturn, 1) := by decide +kernel
theorem ef_33 (m : MethodId) (x0 : Addr) : entryFrame m #[(.ref x0)] 1 = mkF m 0 #[.val (.ref x0)] [] := by first | (simp [entryFrame, mkF, argsToLocals, Value.category]; done) | rfl
abbrev nm_33 : MethodName := ⟨"com/example/steady_sluice/steadysluice/RuleSet", "largestCount", "()I"⟩
set_option maxRecDepth 65536 in
set_option maxHeartbeats 40000000 in
theorem rm33 (l : Launch) (Z : State) (a0 : Array Value) (hw : ∀ d ∈ tables_1, d.before a0 Z = true) (ws : List Jvm.Cond) (a1 : Addr) (cn : Int32) (h0 : Heap) (n0 : Nat) (Z0 : n0 ≤ h0.size) (F : Fld Z h0 a1 "com/example/steady_sluice/steadysluice/RuleSet" "largestCount" "I" (.int cn)) :
    MetFree l nm_33 (head1 (Jvm.Cond.code nm_33 prog_18_method_6_code 1 (some .int) :: ws) rr0) (fun aa zU => aa = #[(.ref a1)] ∧ Z.Warmed39 zU.vm ∧ zU.heap = h0) (fun _ _ _ _ _ => True) (fun _ zU zo zU' => ∃ zv zL, zo = .returned zv ∧ QP (some (.int cn)) h0 n0 zv zU'.heap zL ∧ FrameEnd zU zo zU' zL rr0.cells rr0.slots) := by
  refine MetFree.of_bodySF (plainFor_of_name pn_com_example_steady_sluice_steadysluice_RuleSet) hisR ?_
  intro p e s m args below meth c s₁ Bd hml0 hP hK
  obtain ⟨rfl, hZ, hh⟩ := hP
  have hx := Bd.exec
  have hby := Bd.bytes
  have hml : c.maxLocals = 1 := hml0
  have hown : s.vm.findClass "com/example/steady_sluice/steadysluice/RuleSet" = some m.cls := findClass_of_methodNamed Bd.named
  have hnm := (name_of_methodNamed Bd.named Bd.method).1
  have X0 : Stand p l e rr0 s m #[(.ref a1)] below meth c s₁ [] 0 0 := Stand.of_body Bd
  have e0 : s₁.heap = h0 := by rw [← hh, Bd.state]; rfl
  have N0 := Fr.nil n0
  have pre0 : ∀ t, Steps p.tables e below (s₁.setTop (mkF m 0 #[.val (.ref a1)] [])) t → Steps p.tables e below (s₁.setTop (entryFrame m #[(.ref a1)] 1)) t := fun t k => castTop (ef_33 m a1) k
  obtain ⟨T1, X1, e1, st1⟩ := getF X0 hx hZ hown (host := "") (Or.inl (ow hw 193 rfl)) Via.refl e0 F (g := (mkF m 1 #[.val (.ref a1)] [(.ref a1)])) rfl rfl (hb hby d33_1)
  obtain ⟨fsq, hr, hrun, hended, hW, hsame⟩ := X1.leave (v := some (.int cn)) (fun h => by rw [Bd.returns] at h; cases h)
  refine ⟨_, _, pre0 _ ?_, hrun, hended, _, _, rfl, ?_, ⟨_, rfl⟩, hW, hsame.mono (by decide) (by decide)⟩
  · show Steps p.tables e below (s₁.setTop (mkF m 0 #[.val (.ref a1)] [])) _
    refine XS.aloadN X0.here hx rfl (hb hby d33_0) rfl rfl ?_
    refine st1 _ ?_
    show Steps p.tables e below (T1.setTop (mkF m 4 #[.val (.ref a1)] [(.int cn)])) _
    exact retI X1 hx Bd.returns (hb hby d33_4) hr
  · show QP (some (.int cn)) h0 n0 _ T1.heap _
    rw [e1]
    exact ⟨rfl, N0, rfl⟩
abbrev rr_1_1_16_16 : Room := { frames := 1, cells := 1, slots := 16, locals := 16 }
theorem d32_0 : decode prog_19_method_1_code 0 = .ok (.aload_n 0, 1) := by decide +kernel
theorem d32_1 : decode prog_19_method_1_code 1 = .ok (.invokespecial 3, 3) := by decide +kernel
theorem d32_4 : decode prog_19_method_1_code 4 = .ok (.aload_n 0, 1) := by decide +kernel
theorem d32_5 : decode prog_19_method_1_code 5 = .ok (.aload_n 1, 1) := by decide +kernel
theorem d32_6 : decode prog_19_method_1_code 6 = .ok (.invokevirtual 9, 3) := by decide +kernel
theorem d32_9 : decode prog_19_method_1_code 9 = .ok (.bipush 16, 2) := by decide +kernel
theorem d32_11 : decode prog_19_method_1_code 11 = .ok (.invokestatic 17, 3) := by decide +kernel
theorem d32_14 : decode prog_19_method_1_code 14 = .ok (.newarray .long, 2) := by decide +kernel
theorem d32_16 : decode prog_19_method_1_code 16 = .ok (.putfield 23, 3) := by decide +kernel
theorem d32_19 : decode prog_19_method_1_code 19 = .ok (.aload_n 0, 1) := by decide +kernel
theorem d32_20 : decode prog_19_method_1_code 20 = .ok (.getfield 23, 3) := by decide +kernel
theorem d32_23 : decode prog_19_method_1_code 23 = .ok (.ldc2_w 27, 3) := by decide +kernel
theorem pd_22 : parseMethodDescriptor "([JJ)V" = some ⟨[(.array .long), .long], none⟩ := by decide +kernel
theorem d32_26 : decode prog_19_method_1_code 26 = .ok (.invokestatic 29, 3) := by decide +kernel
theorem d32_29 : decode prog_19_method_1_code 29 = .ok (.return_, 1) := by decide +kernel
theorem pn_com_example_steady_sluice_steadysluice_Scope : plainName "com/example/steady_sluice/steadysluice/Scope" = true := by first | (simp [plainName, overriddenIn]; done) | decide +kernel
theorem ef_32 (m : MethodId) (x0 : Addr) (x1 : Addr) : entryFrame m #[(.ref x0), (.ref x1)] 2 = mkF m 0 #[.val (.ref x0), .val (.ref x1)] [] := by first | (simp [entryFrame, mkF, argsToLocals, Value.category]; done) | rfl
abbrev nm_32 : MethodName := ⟨"com/example/steady_sluice/steadysluice/Scope", "<init>", "(Lcom/example/steady_sluice/steadysluice/RuleSet;)V"⟩
set_option maxRecDepth 65536 in
set_option maxHeartbeats 40000000 in
theorem rm32 (l : Launch) (Z : State) (a0 : Array Value) (hw : ∀ d ∈ tables_1, d.before a0 Z = true) (ws : List Jvm.Cond) (a1 : Addr) (a2 : Addr) (cn : Int32) (n : Nat) (h0 : Heap) (n0 : Nat) (Z0 : n0 ≤ h0.size) (g0_a1 : n0 ≤ a1) (PA : ScAt Z h0 a1 .null (.int (0 : Int32))) (hn : n ≤ 16) (hmin : MetFree l nm_30 (head1 (Jvm.Cond.code nm_30 jdk_29_method_69_code 2 (some .int) :: []) rr0) (fun aa zU => aa = #[(.int cn), (.int (16 : Int32))] ∧ Z.Warmed39 zU.vm ∧ zU.heap = h0) (fun _ _ _ _ _ => True) (fun _ zU zo zU' => ∃ zv zL, zo = .returned zv ∧ QP (some (.int (Int32.ofNat n))) h0 n0 zv zU'.heap zL ∧ FrameEnd zU zo zU' zL rr0.cells rr0.slots)) (EA2 : Exa Z h0 a2 "com/example/steady_sluice/steadysluice/RuleSet") (FL : Fld Z h0 a2 "com/example/steady_sluice/steadysluice/RuleSet" "largestCount" "I" (.int cn)) :
    MetFree l nm_32 (head1 (Jvm.Cond.code nm_32 prog_19_method_1_code 2 none :: ws) rr_1_1_16_16) (fun aa zU => aa = #[(.ref a1), (.ref a2)] ∧ Z.Warmed39 zU.vm ∧ zU.heap = h0) (fun _ _ _ _ _ => True) (fun _ zU zo zU' => ∃ zv zL, zo = .returned zv ∧ QO (fun h => ∃ b, n0 ≤ b ∧ h0.size ≤ b ∧ ScAt Z h a1 (.ref b) (.int (Int32.ofNat 0)) ∧ FA Z h b n (fun _ => (-9223372036854775808 : Int64))) [a1] h0 n0 zv zU'.heap zL ∧ FrameEnd zU zo zU' zL rr_1_1_16_16.cells rr_1_1_16_16.slots) := by
  refine MetFree.of_bodySF (plainFor_of_name pn_com_example_steady_sluice_steadysluice_Scope) hisR ?_
  intro p e s m args below meth c s₁ Bd hml0 hP hK
  obtain ⟨rfl, hZ, hh⟩ := hP
  have hx := Bd.exec
  have hby := Bd.bytes
  have hml : c.maxLocals = 2 := hml0
  have hown : s.vm.findClass "com/example/steady_sluice/steadysluice/Scope" = some m.cls := findClass_of_methodNamed Bd.named
  have hnm := (name_of_methodNamed Bd.named Bd.method).1
  have X0 : Stand p l e rr_1_1_16_16 s m #[(.ref a1), (.ref a2)] below meth c s₁ [] 0 0 := Stand.of_body Bd
  have e0 : s₁.heap = h0 := by rw [← hh, Bd.state]; rfl
  have N0 := Fr.nil n0
  have pre0 : ∀ t, Steps p.tables e below (s₁.setTop (mkF m 0 #[.val (.ref a1), .val (.ref a2)] [])) t → Steps p.tables e below (s₁.setTop (entryFrame m #[(.ref a1), (.ref a2)] 2)) t := fun t k => castTop (ef_32 m a1 a2) k
  obtain ⟨Eob1, F0ob1, F1ob1⟩ := id PA
  obtain ⟨T2, X2, e2, st2⟩ := initO X0 hx hZ hown (ow hw 205 rfl) (ow hw 20 rfl) (ow hw 21 rfl) e0 (g := (mkF m 1 #[.val (.ref a1), .val (.ref a2)] [(.ref a1)])) rfl (by rw [hml]; rfl) rfl (hb hby d32_1) (by decide) (W := 0) (by show 2 * 0 + _ ≤ _; exact Nat.le_of_eq rfl) (by decide)
  obtain ⟨cq3, kq3, q3a, q3b, q3c⟩ := isOf hZ e2 EA2
  obtain ⟨_, _, ⟨T3, L3, k3, n3⟩, -, X3, ⟨Lc3, hQ3, l3, y3, z3⟩, st3⟩ := X2.virtualBack hx (y := nm_33) (z := nm_33) hown (mvT hZ (ow hw 206 rfl)) (mvT hZ (ow hw 207 rfl)) (notFace_of_selects (args := #[]) (mvT hZ (ow hw 209 rfl))) (mvT hZ (ow hw 209 rfl)) (mvT hZ (ow hw 208 rfl)) (by decide) (backOf (W := 1) (rm33 l Z a0 hw [] a2 cn h0 n0 Z0 FL) hZ (ow hw 210 rfl) (ow hw 119 rfl) (by decide) (by decide)) q3a q3c (g := (mkF m 6 #[.val (.ref a1), .val (.ref a2)] [(.ref a2), (.ref a1)])) rfl (by rw [hml]; rfl) (Steps.refl _) (argsL := []) (rest := [(.ref a1)]) (lenOf pd_14 rfl) rfl (by show 2 * 0 + _ ≤ _; exact Nat.le_of_eq rfl) (hb hby d32_6) (fun _ _ => ⟨rfl, e2, (by decide : 0 + 0 ≤ _), (by decide : 0 + 0 ≤ _)⟩)
  dsimp only [Pt.U, Pt.locs, Pt.cells, Pt.slots] at X3 l3 y3 z3 st3 hQ3
  subst l3 y3 z3
  obtain ⟨rfl, N3q, e3⟩ := hQ3
  have N3 := Fr.app N0 N3q
  obtain ⟨_, _, ⟨T4, L4, k4, n4⟩, -, X4, ⟨Lc4, hQ4, l4, y4, z4⟩, st4⟩ := Jvm.LawKit.callS X3 hx (y := nm_30) hown (mvT hZ (ow hw 211 rfl)) (mvT hZ (ow hw 188 rfl)) (mvT hZ (ow hw 112 rfl)) (mvT hZ (ow hw 189 rfl)) (by decide) (backOf (W := 1) (hmin) hZ (ow hw 189 rfl) (ow hw 112 rfl) (by decide) (by decide)) (g := (mkF m 11 #[.val (.ref a1), .val (.ref a2)] [(.int (16 : Int32)), (.int cn), (.ref a1)])) rfl (by rw [hml]; rfl) (argsL := [(.int cn), (.int (16 : Int32))]) (rest := [(.ref a1)]) (lenOf pd_12 rfl) rfl (by show 2 * 0 + _ ≤ _; exact Nat.le_of_eq rfl) (hb hby d32_11) (fun _ _ => ⟨rfl, e3, (by decide : 0 + 0 ≤ _), (by decide : 0 + 0 ≤ _)⟩)
  dsimp only [Pt.U, Pt.locs, Pt.cells, Pt.slots] at X4 l4 y4 z4 st4 hQ4
  subst l4 y4 z4
  obtain ⟨rfl, N4q, e4⟩ := hQ4
  have N4 := Fr.app N3 N4q
  obtain ⟨T5, h5, k5, X5, e5, E5, A5, st5⟩ := newP X4 hx hZ (ow hw 136 rfl) e4 (g := (mkF m 14 #[.val (.ref a1), .val (.ref a2)] [(.int (Int32.ofNat n)), (.ref a1)])) rfl (hb hby d32_14) rfl (own_nn (by omega)) (cap := 16) (by rw [own_cl (by omega)]; exact hn) (by decide) (by decide) (by decide)
  obtain ⟨b5, g_b5⟩ : ∃ z, z = h0.size := ⟨_, rfl⟩
  rw [← g_b5] at A5 st5
  have g0_b5 : n0 ≤ b5 := Nat.le_trans Z0 (Nat.le_of_eq g_b5.symm)
  have sz_b5 : h0.size ≤ b5 := Nat.le_trans (Nat.le_refl _) (Nat.le_of_eq g_b5.symm)
  have ne_a1_b5 : a1 ≠ b5 := Nat.ne_of_lt (Nat.lt_of_lt_of_le Eob1.lt (Nat.le_of_eq g_b5.symm))
  have ne_a2_b5 : a2 ≠ b5 := Nat.ne_of_lt (Nat.lt_of_lt_of_le EA2.lt (Nat.le_of_eq g_b5.symm))
  have V_b5 := Arv.new A5 (own_nn (by omega))
  have c7 := F0ob1.ext E5
  have c8 := Eob1.ext E5
  obtain ⟨T6, h6, X6, e6, W6, st6⟩ := putF X5 hx hZ hown (host := "") (Or.inl (ow hw 212 rfl)) Via.refl e5 c7 c8 (Or.inl (ow hw 213 rfl)) (ow hw 200 rfl) (ty := (.array .long)) (by decide) rfl rfl (g := (mkF m 16 #[.val (.ref a1), .val (.ref a2)] [(.ref b5), (.ref a1)])) rfl rfl (hb hby d32_16)
  have Fw6 := c7.same W6
  have N6 := Fr.snoc X6 N4 g0_a1
  obtain ⟨T9, X9, e9, st9⟩ := getF X6 hx hZ hown (host := "") (Or.inl (ow hw 212 rfl)) Via.refl e6 Fw6 (g := (mkF m 20 #[.val (.ref a1), .val (.ref a2)] [(.ref a1)])) rfl rfl (hb hby d32_20)
  have c10 := V_b5.other W6 (Ne.symm ne_a1_b5)
  have FV := FA.ofArv c10 (own_cl (i := n) (by omega))
  obtain ⟨_, _, ⟨T11, L11, k11, n11⟩, -, X11, ⟨Lc11, hQ11, l11, y11, z11⟩, st11⟩ := Jvm.LawKit.callS X9 hx (y := nm_34) hown (mvT hZ (ow hw 215 rfl)) (mvT hZ (ow hw 216 rfl)) (mvT hZ (ow hw 217 rfl)) (mvT hZ (ow hw 218 rfl)) (by decide) (backOf (W := 0) (rm34 l Z a0 hw [] b5 (-9223372036854775808 : Int64) n (fun _ => 0) h6 n0 (Nat.le_trans (Nat.le_trans Z0 E5.1) (Keep.of_wr W6).1) g0_b5 FV hn) hZ (ow hw 218 rfl) (ow hw 217 rfl) (by decide) (by decide)) (g := (mkF m 26 #[.val (.ref a1), .val (.ref a2)] [(.long (-9223372036854775808 : Int64)), (.ref b5)])) rfl (by rw [hml]; rfl) (argsL := [(.ref b5), (.long (-9223372036854775808 : Int64))]) (rest := []) (lenOf pd_22 rfl) rfl (by show 2 * 0 + _ ≤ _; exact Nat.le_of_eq rfl) (hb hby d32_26) (fun _ _ => ⟨rfl, e9, (by decide : 1 + 0 ≤ _), (by decide : 16 + 0 ≤ _)⟩)
  dsimp only [Pt.U, Pt.locs, Pt.cells, Pt.slots] at X11 l11 y11 z11 st11 hQ11
  subst l11 y11 z11
  obtain ⟨rfl, N11q, K11, FF11⟩ := hQ11
  have N11 := Fr.app N6 N11q
  have kp12 : Keep h0 T11.heap [a1] := ((((Keep.refl h0 [a1]).ext E5).wr W6 (Or.inl (List.mem_of_getElem? (i := 0) rfl))).trans K11 (allS (Or.inr sz_b5) all0))
  have c13 := c8.wr W6
  have c14 := c13.keep K11
  have c15 := Fw6.keep K11 (ninS ne_a1_b5 nin0)
  have c16 := F1ob1.ext E5
  have c17 := c16.other W6 (Or.inr (slot_ne (Or.inl (ow hw 225 rfl)) (Or.inl (ow hw 213 rfl)) (by decide) (t := .int) (t' := (.array .long)) (by decide) (by decide)))
  have c18 := c17.keep K11 (ninS ne_a1_b5 nin0)
  obtain ⟨fsq, hr, hrun, hended, hW, hsame⟩ := X11.leave (v := none) (fun _ => rfl)
  refine ⟨_, _, pre0 _ ?_, hrun, hended, _, _, rfl, ?_, ⟨_, rfl⟩, hW, hsame.mono (by decide) (by decide)⟩
  · show Steps p.tables e below (s₁.setTop (mkF m 0 #[.val (.ref a1), .val (.ref a2)] [])) _
    refine XS.aloadN X0.here hx rfl (hb hby d32_0) rfl rfl ?_
    refine st2 _ ?_
    refine XS.aloadN X2.here hx rfl (hb hby d32_4) rfl rfl ?_
    show Steps p.tables e below (T2.setTop (mkF m 5 #[.val (.ref a1), .val (.ref a2)] [(.ref a1)])) _
    refine XS.aloadN X2.here hx rfl (hb hby d32_5) rfl rfl ?_
    refine st3.trans ?_
    refine XS.bipush X3.here hx rfl (hb hby d32_9) ?_
    show Steps p.tables e below (T3.setTop (mkF m 11 #[.val (.ref a1), .val (.ref a2)] [(.int (16 : Int32)), (.int cn), (.ref a1)])) _
    refine st4 _ ?_
    refine st5 _ ?_
    refine st6 _ ?_
    show Steps p.tables e below (T6.setTop (mkF m 19 #[.val (.ref a1), .val (.ref a2)] [])) _
    refine XS.aloadN X6.here hx rfl (hb hby d32_19) rfl rfl ?_
    refine st9 _ ?_
    refine X9.ldc2Long hx hown (mvT hZ (ow hw 214 rfl)) (g := (mkF m 23 #[.val (.ref a1), .val (.ref a2)] [(.ref b5)])) rfl (hb hby d32_23) _ ?_
    show Steps p.tables e below (T9.setTop (mkF m 26 #[.val (.ref a1), .val (.ref a2)] [(.long (-9223372036854775808 : Int64)), (.ref b5)])) _
    refine st11 _ ?_
    show Steps p.tables e below (T11.setTop (mkF m 29 #[.val (.ref a1), .val (.ref a2)] [])) _
    exact X11.returnOut hx Bd.returns (hb hby d32_29) hr
  · show QO (fun h => ∃ b, n0 ≤ b ∧ h0.size ≤ b ∧ ScAt Z h a1 (.ref b) (.int (Int32.ofNat 0)) ∧ FA Z h b n (fun _ => (-9223372036854775808 : Int64))) [a1] h0 n0 _ T11.heap _
    exact ⟨rfl, N11, kp12, b5, g0_b5, sz_b5, ⟨c14, c15, c18⟩, FF11⟩
theorem d36_0 : decode prog_19_method_5_code 0 = .ok (.aload_n 0, 1) := by decide +kernel
theorem d36_1 : decode prog_19_method_5_code 1 = .ok (.getfield 53, 3) := by decide +kernel
theorem d36_4 : decode prog_19_method_5_code 4 = .ok (.iload_n 1, 1) := by decide +kernel
theorem d36_5 : decode prog_19_method_5_code 5 = .ok (.iadd, 1) := by decide +kernel
theorem d36_6 : decode prog_19_method_5_code 6 = .ok (.istore_n 2, 1) := by decide +kernel
theorem d36_7 : decode prog_19_method_5_code 7 = .ok (.iload_n 2, 1) := by decide +kernel
theorem d36_8 : decode prog_19_method_5_code 8 = .ok (.aload_n 0, 1) := by decide +kernel
theorem d36_9 : decode prog_19_method_5_code 9 = .ok (.getfield 23, 3) := by decide +kernel
theorem d36_12 : decode prog_19_method_5_code 12 = .ok (.arraylength, 1) := by decide +kernel
theorem d36_13 : decode prog_19_method_5_code 13 = .ok (.if_icmp .lt 13, 3) := by decide +kernel
theorem d36_26 : decode prog_19_method_5_code 26 = .ok (.iload_n 2, 1) := by decide +kernel
theorem d36_27 : decode prog_19_method_5_code 27 = .ok (.ireturn, 1) := by decide +kernel
theorem ef_36 (m : MethodId) (x0 : Addr) (x1 : Int32) : entryFrame m #[(.ref x0), (.int x1)] 3 = mkF m 0 #[.val (.ref x0), .val (.int x1), .unset] [] := by first | (simp [entryFrame, mkF, argsToLocals, Value.category]; done) | rfl
abbrev nm_36 : MethodName := ⟨"com/example/steady_sluice/steadysluice/Scope", "slot", "(I)I"⟩
set_option maxRecDepth 65536 in
set_option maxHeartbeats 40000000 in
theorem rm36_t (l : Launch) (Z : State) (a0 : Array Value) (hw : ∀ d ∈ tables_1, d.before a0 Z = true) (ws : List Jvm.Cond) (a1 : Addr) (arr : Addr) (n : Nat) (f : Nat → Int64) (hd : Nat) (ii : Int32) (m' : Nat) (h0 : Heap) (n0 : Nat) (Z0 : n0 ≤ h0.size) (hn : n ≤ 16) (hm : Int32.ofNat hd + ii = Int32.ofNat m') (hm2 : m' < 2 ^ 31) (hq : m' < n) (FT : Fld Z h0 a1 "com/example/steady_sluice/steadysluice/Scope" "times" "[J" (.ref arr)) (FH : Fld Z h0 a1 "com/example/steady_sluice/steadysluice/Scope" "head" "I" (.int (Int32.ofNat hd))) (FAa : FA Z h0 arr n f) :
    MetFree l nm_36 (head1 (Jvm.Cond.code nm_36 prog_19_method_5_code 3 (some .int) :: ws) rr0) (fun aa zU => aa = #[(.ref a1), (.int ii)] ∧ Z.Warmed39 zU.vm ∧ zU.heap = h0) (fun _ _ _ _ _ => True) (fun _ zU zo zU' => ∃ zv zL, zo = .returned zv ∧ QP (some (.int (Int32.ofNat m'))) h0 n0 zv zU'.heap zL ∧ FrameEnd zU zo zU' zL rr0.cells rr0.slots) := by
  refine MetFree.of_bodySF (plainFor_of_name pn_com_example_steady_sluice_steadysluice_Scope) hisR ?_
  intro p e s m args below meth c s₁ Bd hml0 hP hK
  obtain ⟨rfl, hZ, hh⟩ := hP
  have hx := Bd.exec
  have hby := Bd.bytes
  have hml : c.maxLocals = 3 := hml0
  have hown : s.vm.findClass "com/example/steady_sluice/steadysluice/Scope" = some m.cls := findClass_of_methodNamed Bd.named
  have hnm := (name_of_methodNamed Bd.named Bd.method).1
  have X0 : Stand p l e rr0 s m #[(.ref a1), (.int ii)] below meth c s₁ [] 0 0 := Stand.of_body Bd
  have e0 : s₁.heap = h0 := by rw [← hh, Bd.state]; rfl
  have N0 := Fr.nil n0
  have pre0 : ∀ t, Steps p.tables e below (s₁.setTop (mkF m 0 #[.val (.ref a1), .val (.int ii), .unset] [])) t → Steps p.tables e below (s₁.setTop (entryFrame m #[(.ref a1), (.int ii)] 3)) t := fun t k => castTop (ef_36 m a1 ii) k
  obtain ⟨T1, X1, e1, st1⟩ := getF X0 hx hZ hown (host := "") (Or.inl (ow hw 224 rfl)) Via.refl e0 FH (g := (mkF m 1 #[.val (.ref a1), .val (.int ii), .unset] [(.ref a1)])) rfl rfl (hb hby d36_1)
  obtain ⟨T2, X2, e2, st2⟩ := getF X1 hx hZ hown (host := "") (Or.inl (ow hw 212 rfl)) Via.refl e1 FT (g := (mkF m 9 #[.val (.ref a1), .val (.int ii), .val (.int (Int32.ofNat m'))] [(.ref a1), (.int (Int32.ofNat m'))])) rfl rfl (hb hby d36_9)
  obtain ⟨clq3, Arq3, Sq3, Hq3⟩ := id FAa
  obtain ⟨fsq, hr, hrun, hended, hW, hsame⟩ := X2.leave (v := some (.int (Int32.ofNat m'))) (fun h => by rw [Bd.returns] at h; cases h)
  refine ⟨_, _, pre0 _ ?_, hrun, hended, _, _, rfl, ?_, ⟨_, rfl⟩, hW, hsame.mono (by decide) (by decide)⟩
  · show Steps p.tables e below (s₁.setTop (mkF m 0 #[.val (.ref a1), .val (.int ii), .unset] [])) _
    refine XS.aloadN X0.here hx rfl (hb hby d36_0) rfl rfl ?_
    refine st1 _ ?_
    refine XS.iloadN X1.here hx rfl (hb hby d36_4) rfl ?_
    show Steps p.tables e below (T1.setTop (mkF m 5 #[.val (.ref a1), .val (.int ii), .unset] [(.int ii), (.int (Int32.ofNat hd))])) _
    refine XS.iadd X1.here hx rfl (hb hby d36_5) rfl ?_
    show Steps p.tables e below (T1.setTop (mkF m 6 #[.val (.ref a1), .val (.int ii), .unset] [(.int ((Int32.ofNat hd) + ii))])) _
    rw [hm]
    refine XS.istoreN X1.here hx rfl (hb hby d36_6) rfl (l' := #[.val (.ref a1), .val (.int ii), .val (.int (Int32.ofNat m'))]) rfl ?_
    refine XS.iloadN X1.here hx rfl (hb hby d36_7) rfl ?_
    show Steps p.tables e below (T1.setTop (mkF m 8 #[.val (.ref a1), .val (.int ii), .val (.int (Int32.ofNat m'))] [(.int (Int32.ofNat m'))])) _
    refine XS.aloadN X1.here hx rfl (hb hby d36_8) rfl rfl ?_
    refine st2 _ ?_
    show Steps p.tables e below (T2.setTop (mkF m 12 #[.val (.ref a1), .val (.int ii), .val (.int (Int32.ofNat m'))] [(.ref arr), (.int (Int32.ofNat m'))])) _
    refine X2.arraylength hx (by rw [e2]; exact Arq3.1) (State.isArrayOf_alike hZ.alike Arq3.2.1) (g := (mkF m 12 #[.val (.ref a1), .val (.int ii), .val (.int (Int32.ofNat m'))] [(.ref arr), (.int (Int32.ofNat m'))])) rfl rfl (hb hby d36_12) _ ?_
    rw [Sq3]
    show Steps p.tables e below (T2.setTop (mkF m 13 #[.val (.ref a1), .val (.int ii), .val (.int (Int32.ofNat m'))] [(.int (Int32.ofNat n)), (.int (Int32.ofNat m'))])) _
    refine XS.icmpYes X2.here hx rfl (pc0 := 13) (pc' := 26) rfl (hb hby d36_13) rfl (tlt (((own_lt (by omega) (by omega)).mpr hq) : (Int32.ofNat m') < (Int32.ofNat n))).1 (by decide) (by decide) ?_
    refine XS.iloadN X2.here hx rfl (hb hby d36_26) rfl ?_
    show Steps p.tables e below (T2.setTop (mkF m 27 #[.val (.ref a1), .val (.int ii), .val (.int (Int32.ofNat m'))] [(.int (Int32.ofNat m'))])) _
    exact retI X2 hx Bd.returns (hb hby d36_27) hr
  · show QP (some (.int (Int32.ofNat m'))) h0 n0 _ T2.heap _
    rw [e2]
    exact ⟨rfl, N0, rfl⟩
theorem d36_16 : decode prog_19_method_5_code 16 = .ok (.iload_n 2, 1) := by decide +kernel
theorem d36_17 : decode prog_19_method_5_code 17 = .ok (.aload_n 0, 1) := by decide +kernel
theorem d36_18 : decode prog_19_method_5_code 18 = .ok (.getfield 23, 3) := by decide +kernel
theorem d36_21 : decode prog_19_method_5_code 21 = .ok (.arraylength, 1) := by decide +kernel
theorem d36_22 : decode prog_19_method_5_code 22 = .ok (.isub, 1) := by decide +kernel
theorem d36_23 : decode prog_19_method_5_code 23 = .ok (.goto 4, 3) := by decide +kernel
set_option maxRecDepth 65536 in
set_option maxHeartbeats 40000000 in
theorem rm36_f (l : Launch) (Z : State) (a0 : Array Value) (hw : ∀ d ∈ tables_1, d.before a0 Z = true) (ws : List Jvm.Cond) (a1 : Addr) (arr : Addr) (n : Nat) (f : Nat → Int64) (hd : Nat) (ii : Int32) (m' : Nat) (h0 : Heap) (n0 : Nat) (Z0 : n0 ≤ h0.size) (hn : n ≤ 16) (hm : Int32.ofNat hd + ii = Int32.ofNat m') (hm2 : m' < 2 ^ 31) (hq : ¬ (m' < n)) (FT : Fld Z h0 a1 "com/example/steady_sluice/steadysluice/Scope" "times" "[J" (.ref arr)) (FH : Fld Z h0 a1 "com/example/steady_sluice/steadysluice/Scope" "head" "I" (.int (Int32.ofNat hd))) (FAa : FA Z h0 arr n f) :
    MetFree l nm_36 (head1 (Jvm.Cond.code nm_36 prog_19_method_5_code 3 (some .int) :: ws) rr0) (fun aa zU => aa = #[(.ref a1), (.int ii)] ∧ Z.Warmed39 zU.vm ∧ zU.heap = h0) (fun _ _ _ _ _ => True) (fun _ zU zo zU' => ∃ zv zL, zo = .returned zv ∧ QP (some (.int (Int32.ofNat (m' - n)))) h0 n0 zv zU'.heap zL ∧ FrameEnd zU zo zU' zL rr0.cells rr0.slots) := by
  refine MetFree.of_bodySF (plainFor_of_name pn_com_example_steady_sluice_steadysluice_Scope) hisR ?_
  intro p e s m args below meth c s₁ Bd hml0 hP hK
  obtain ⟨rfl, hZ, hh⟩ := hP
  have hx := Bd.exec
  have hby := Bd.bytes
  have hml : c.maxLocals = 3 := hml0
  have hown : s.vm.findClass "com/example/steady_sluice/steadysluice/Scope" = some m.cls := findClass_of_methodNamed Bd.named
  have hnm := (name_of_methodNamed Bd.named Bd.method).1
  have X0 : Stand p l e rr0 s m #[(.ref a1), (.int ii)] below meth c s₁ [] 0 0 := Stand.of_body Bd
  have e0 : s₁.heap = h0 := by rw [← hh, Bd.state]; rfl
  have N0 := Fr.nil n0
  have pre0 : ∀ t, Steps p.tables e below (s₁.setTop (mkF m 0 #[.val (.ref a1), .val (.int ii), .unset] [])) t → Steps p.tables e below (s₁.setTop (entryFrame m #[(.ref a1), (.int ii)] 3)) t := fun t k => castTop (ef_36 m a1 ii) k
  obtain ⟨T1, X1, e1, st1⟩ := getF X0 hx hZ hown (host := "") (Or.inl (ow hw 224 rfl)) Via.refl e0 FH (g := (mkF m 1 #[.val (.ref a1), .val (.int ii), .unset] [(.ref a1)])) rfl rfl (hb hby d36_1)
  obtain ⟨T2, X2, e2, st2⟩ := getF X1 hx hZ hown (host := "") (Or.inl (ow hw 212 rfl)) Via.refl e1 FT (g := (mkF m 9 #[.val (.ref a1), .val (.int ii), .val (.int (Int32.ofNat m'))] [(.ref a1), (.int (Int32.ofNat m'))])) rfl rfl (hb hby d36_9)
  obtain ⟨clq3, Arq3, Sq3, Hq3⟩ := id FAa
  obtain ⟨T4, X4, e4, st4⟩ := getF X2 hx hZ hown (host := "") (Or.inl (ow hw 212 rfl)) Via.refl e2 FT (g := (mkF m 18 #[.val (.ref a1), .val (.int ii), .val (.int (Int32.ofNat m'))] [(.ref a1), (.int (Int32.ofNat m'))])) rfl rfl (hb hby d36_18)
  obtain ⟨clq5, Arq5, Sq5, Hq5⟩ := id FAa
  obtain ⟨fsq, hr, hrun, hended, hW, hsame⟩ := X4.leave (v := some (.int (Int32.ofNat (m' - n)))) (fun h => by rw [Bd.returns] at h; cases h)
  refine ⟨_, _, pre0 _ ?_, hrun, hended, _, _, rfl, ?_, ⟨_, rfl⟩, hW, hsame.mono (by decide) (by decide)⟩
  · show Steps p.tables e below (s₁.setTop (mkF m 0 #[.val (.ref a1), .val (.int ii), .unset] [])) _
    refine XS.aloadN X0.here hx rfl (hb hby d36_0) rfl rfl ?_
    refine st1 _ ?_
    refine XS.iloadN X1.here hx rfl (hb hby d36_4) rfl ?_
    show Steps p.tables e below (T1.setTop (mkF m 5 #[.val (.ref a1), .val (.int ii), .unset] [(.int ii), (.int (Int32.ofNat hd))])) _
    refine XS.iadd X1.here hx rfl (hb hby d36_5) rfl ?_
    show Steps p.tables e below (T1.setTop (mkF m 6 #[.val (.ref a1), .val (.int ii), .unset] [(.int ((Int32.ofNat hd) + ii))])) _
    rw [hm]
    refine XS.istoreN X1.here hx rfl (hb hby d36_6) rfl (l' := #[.val (.ref a1), .val (.int ii), .val (.int (Int32.ofNat m'))]) rfl ?_
    refine XS.iloadN X1.here hx rfl (hb hby d36_7) rfl ?_
    show Steps p.tables e below (T1.setTop (mkF m 8 #[.val (.ref a1), .val (.int ii), .val (.int (Int32.ofNat m'))] [(.int (Int32.ofNat m'))])) _
    refine XS.aloadN X1.here hx rfl (hb hby d36_8) rfl rfl ?_
    refine st2 _ ?_
    show Steps p.tables e below (T2.setTop (mkF m 12 #[.val (.ref a1), .val (.int ii), .val (.int (Int32.ofNat m'))] [(.ref arr), (.int (Int32.ofNat m'))])) _
    refine X2.arraylength hx (by rw [e2]; exact Arq3.1) (State.isArrayOf_alike hZ.alike Arq3.2.1) (g := (mkF m 12 #[.val (.ref a1), .val (.int ii), .val (.int (Int32.ofNat m'))] [(.ref arr), (.int (Int32.ofNat m'))])) rfl rfl (hb hby d36_12) _ ?_
    rw [Sq3]
    show Steps p.tables e below (T2.setTop (mkF m 13 #[.val (.ref a1), .val (.int ii), .val (.int (Int32.ofNat m'))] [(.int (Int32.ofNat n)), (.int (Int32.ofNat m'))])) _
    refine XS.icmpNo X2.here hx rfl (hb hby d36_13) rfl (flt ((fun z => hq ((own_lt (by omega) (by omega)).mp z)) : ¬ ((Int32.ofNat m') < (Int32.ofNat n)))).1 ?_
    refine XS.iloadN X2.here hx rfl (hb hby d36_16) rfl ?_
    show Steps p.tables e below (T2.setTop (mkF m 17 #[.val (.ref a1), .val (.int ii), .val (.int (Int32.ofNat m'))] [(.int (Int32.ofNat m'))])) _
    refine XS.aloadN X2.here hx rfl (hb hby d36_17) rfl rfl ?_
    refine st4 _ ?_
    show Steps p.tables e below (T4.setTop (mkF m 21 #[.val (.ref a1), .val (.int ii), .val (.int (Int32.ofNat m'))] [(.ref arr), (.int (Int32.ofNat m'))])) _
    refine X4.arraylength hx (by rw [e4]; exact Arq5.1) (State.isArrayOf_alike hZ.alike Arq5.2.1) (g := (mkF m 21 #[.val (.ref a1), .val (.int ii), .val (.int (Int32.ofNat m'))] [(.ref arr), (.int (Int32.ofNat m'))])) rfl rfl (hb hby d36_21) _ ?_
    rw [Sq5]
    show Steps p.tables e below (T4.setTop (mkF m 22 #[.val (.ref a1), .val (.int ii), .val (.int (Int32.ofNat m'))] [(.int (Int32.ofNat n)), (.int (Int32.ofNat m'))])) _
    refine XS.isub X4.here hx rfl (hb hby d36_22) rfl ?_
    show Steps p.tables e below (T4.setTop (mkF m 23 #[.val (.ref a1), .val (.int ii), .val (.int (Int32.ofNat m'))] [(.int ((Int32.ofNat m') - (Int32.ofNat n)))])) _
    rw [own_sub (by omega) hm2]
    refine XS.goto X4.here hx rfl (pc0 := 23) (pc' := 27) rfl (hb hby d36_23) (by decide) (by decide) ?_
    show Steps p.tables e below (T4.setTop (mkF m 27 #[.val (.ref a1), .val (.int ii), .val (.int (Int32.ofNat m'))] [(.int (Int32.ofNat (m' - n)))])) _
    exact retI X4 hx Bd.returns (hb hby d36_27) hr
  · show QP (some (.int (Int32.ofNat (m' - n)))) h0 n0 _ T4.heap _
    rw [e4]
    exact ⟨rfl, N0, rfl⟩
theorem rm36 (l : Launch) (Z : State) (a0 : Array Value) (hw : ∀ d ∈ tables_1, d.before a0 Z = true) (ws : List Jvm.Cond) (a1 : Addr) (arr : Addr) (n : Nat) (f : Nat → Int64) (hd : Nat) (ii : Int32) (m' : Nat) (h0 : Heap) (n0 : Nat) (Z0 : n0 ≤ h0.size) (hn : n ≤ 16) (hm : Int32.ofNat hd + ii = Int32.ofNat m') (hm2 : m' < 2 ^ 31) (FT : Fld Z h0 a1 "com/example/steady_sluice/steadysluice/Scope" "times" "[J" (.ref arr)) (FH : Fld Z h0 a1 "com/example/steady_sluice/steadysluice/Scope" "head" "I" (.int (Int32.ofNat hd))) (FAa : FA Z h0 arr n f) :
    MetFree l nm_36 (head1 (Jvm.Cond.code nm_36 prog_19_method_5_code 3 (some .int) :: ws) rr0) (fun aa zU => aa = #[(.ref a1), (.int ii)] ∧ Z.Warmed39 zU.vm ∧ zU.heap = h0) (fun _ _ _ _ _ => True) (fun _ zU zo zU' => ∃ zv zL, zo = .returned zv ∧ QP (some (.int (Int32.ofNat (own_md m' n)))) h0 n0 zv zU'.heap zL ∧ FrameEnd zU zo zU' zL rr0.cells rr0.slots) := by
  by_cases q : m' < n
  · rw [show own_md m' n = m' from if_pos q]; exact rm36_t l Z a0 hw ws a1 arr n f hd ii m' h0 n0 Z0 hn hm hm2 q FT FH FAa
  · rw [show own_md m' n = m' - n from if_neg q]; exact rm36_f l Z a0 hw ws a1 arr n f hd ii m' h0 n0 Z0 hn hm hm2 q FT FH FAa
theorem d38_0 : decode prog_18_method_7_code 0 = .ok (.lconst 0, 1) := by decide +kernel
theorem d38_1 : decode prog_18_method_7_code 1 = .ok (.lstore_n 2, 1) := by decide +kernel
theorem d38_2 : decode prog_18_method_7_code 2 = .ok (.iload_n 1, 1) := by decide +kernel
theorem d38_3 : decode prog_18_method_7_code 3 = .ok (.aload_n 0, 1) := by decide +kernel
theorem d38_4 : decode prog_18_method_7_code 4 = .ok (.getfield 61, 3) := by decide +kernel
theorem d38_7 : decode prog_18_method_7_code 7 = .ok (.if_icmp .ge 11, 3) := by decide +kernel
theorem d38_10 : decode prog_18_method_7_code 10 = .ok (.aload_n 0, 1) := by decide +kernel
theorem d38_11 : decode prog_18_method_7_code 11 = .ok (.getfield 64, 3) := by decide +kernel
theorem d38_14 : decode prog_18_method_7_code 14 = .ok (.lstore_n 2, 1) := by decide +kernel
theorem d38_15 : decode prog_18_method_7_code 15 = .ok (.goto 45, 3) := by decide +kernel
theorem d38_60 : decode prog_18_method_7_code 60 = .ok (.lload_n 2, 1) := by decide +kernel
theorem d38_61 : decode prog_18_method_7_code 61 = .ok (.lreturn, 1) := by decide +kernel
theorem ef_38 (m : MethodId) (x0 : Addr) (x1 : Int32) : entryFrame m #[(.ref x0), (.int x1)] 5 = mkF m 0 #[.val (.ref x0), .val (.int x1), .unset, .unset, .unset] [] := by first | (simp [entryFrame, mkF, argsToLocals, Value.category]; done) | rfl
abbrev nm_38 : MethodName := ⟨"com/example/steady_sluice/steadysluice/RuleSet", "longestPeriodAbove", "(I)J"⟩
set_option maxRecDepth 65536 in
set_option maxHeartbeats 40000000 in
theorem rm38 (l : Launch) (Z : State) (a0 : Array Value) (hw : ∀ d ∈ tables_1, d.before a0 Z = true) (ws : List Jvm.Cond) (a1 : Addr) (p2 : Int32) (cn : Int32) (h0 : Heap) (n0 : Nat) (Z0 : n0 ≤ h0.size) (FS : Fld Z h0 a1 "com/example/steady_sluice/steadysluice/RuleSet" "smallestCount" "I" (.int cn)) (FL : Fld Z h0 a1 "com/example/steady_sluice/steadysluice/RuleSet" "longestPeriodNanos" "J" (.long (1 : Int64))) (hc7 : p2 < cn) :
    MetFree l nm_38 (head1 (Jvm.Cond.code nm_38 prog_18_method_7_code 5 (some .long) :: ws) rr0) (fun aa zU => aa = #[(.ref a1), (.int p2)] ∧ Z.Warmed39 zU.vm ∧ zU.heap = h0) (fun _ _ _ _ _ => True) (fun _ zU zo zU' => ∃ zv zL, zo = .returned zv ∧ QP (some (.long (1 : Int64))) h0 n0 zv zU'.heap zL ∧ FrameEnd zU zo zU' zL rr0.cells rr0.slots) := by
  refine MetFree.of_bodySF (plainFor_of_name pn_com_example_steady_sluice_steadysluice_RuleSet) hisR ?_
  intro p e s m args below meth c s₁ Bd hml0 hP hK
  obtain ⟨rfl, hZ, hh⟩ := hP
  have hx := Bd.exec
  have hby := Bd.bytes
  have hml : c.maxLocals = 5 := hml0
  have hown : s.vm.findClass "com/example/steady_sluice/steadysluice/RuleSet" = some m.cls := findClass_of_methodNamed Bd.named
  have hnm := (name_of_methodNamed Bd.named Bd.method).1
  have X0 : Stand p l e rr0 s m #[(.ref a1), (.int p2)] below meth c s₁ [] 0 0 := Stand.of_body Bd
  have e0 : s₁.heap = h0 := by rw [← hh, Bd.state]; rfl
  have N0 := Fr.nil n0
  have pre0 : ∀ t, Steps p.tables e below (s₁.setTop (mkF m 0 #[.val (.ref a1), .val (.int p2), .unset, .unset, .unset] [])) t → Steps p.tables e below (s₁.setTop (entryFrame m #[(.ref a1), (.int p2)] 5)) t := fun t k => castTop (ef_38 m a1 p2) k
  obtain ⟨T1, X1, e1, st1⟩ := getF X0 hx hZ hown (host := "") (Or.inl (ow hw 195 rfl)) Via.refl e0 FS (g := (mkF m 4 #[.val (.ref a1), .val (.int p2), .val (.long (0 : Int64)), .second, .unset] [(.ref a1), (.int p2)])) rfl rfl (hb hby d38_4)
  obtain ⟨T2, X2, e2, st2⟩ := getF X1 hx hZ hown (host := "") (Or.inl (ow hw 197 rfl)) Via.refl e1 FL (g := (mkF m 11 #[.val (.ref a1), .val (.int p2), .val (.long (0 : Int64)), .second, .unset] [(.ref a1)])) rfl rfl (hb hby d38_11)
  obtain ⟨fsq, hr, hrun, hended, hW, hsame⟩ := X2.leave (v := some (.long (1 : Int64))) (fun h => by rw [Bd.returns] at h; cases h)
  refine ⟨_, _, pre0 _ ?_, hrun, hended, _, _, rfl, ?_, ⟨_, rfl⟩, hW, hsame.mono (by decide) (by decide)⟩
  · show Steps p.tables e below (s₁.setTop (mkF m 0 #[.val (.ref a1), .val (.int p2), .unset, .unset, .unset] [])) _
    refine XS.lconst X0.here hx rfl (hb hby d38_0) ?_
    refine XS.lstoreN X0.here hx rfl (hb hby d38_1) rfl (l' := #[.val (.ref a1), .val (.int p2), .val (.long (0 : Int64)), .second, .unset]) rfl ?_
    refine XS.iloadN X0.here hx rfl (hb hby d38_2) rfl ?_
    show Steps p.tables e below (s₁.setTop (mkF m 3 #[.val (.ref a1), .val (.int p2), .val (.long (0 : Int64)), .second, .unset] [(.int p2)])) _
    refine XS.aloadN X0.here hx rfl (hb hby d38_3) rfl rfl ?_
    refine st1 _ ?_
    refine XS.icmpNo X1.here hx rfl (hb hby d38_7) rfl (tlt hc7).2.1 ?_
    show Steps p.tables e below (T1.setTop (mkF m 10 #[.val (.ref a1), .val (.int p2), .val (.long (0 : Int64)), .second, .unset] [])) _
    refine XS.aloadN X1.here hx rfl (hb hby d38_10) rfl rfl ?_
    refine st2 _ ?_
    refine XS.lstoreN X2.here hx rfl (hb hby d38_14) rfl (l' := #[.val (.ref a1), .val (.int p2), .val (.long (1 : Int64)), .second, .unset]) rfl ?_
    show Steps p.tables e below (T2.setTop (mkF m 15 #[.val (.ref a1), .val (.int p2), .val (.long (1 : Int64)), .second, .unset] [])) _
    refine XS.goto X2.here hx rfl (pc0 := 15) (pc' := 60) rfl (hb hby d38_15) (by decide) (by decide) ?_
    refine XS.lloadN X2.here hx rfl (hb hby d38_60) rfl ?_
    show Steps p.tables e below (T2.setTop (mkF m 61 #[.val (.ref a1), .val (.int p2), .val (.long (1 : Int64)), .second, .unset] [(.long (1 : Int64))])) _
    exact retOut X2 hx Bd.returns rfl (Or.inr (Or.inl ⟨rfl, rfl, _, rfl⟩)) (hb hby d38_61) hr
  · show QP (some (.long (1 : Int64))) h0 n0 _ T2.heap _
    rw [e2]
    exact ⟨rfl, N0, rfl⟩
abbrev rr_1_0_0_20 : Room := { frames := 1, cells := 0, slots := 0, locals := 20 }
theorem FA.neExa {Z : State} {h : Heap} {a b : Addr} {n kk : Nat} {f : Nat → Int64} {K : String} {a0 : Array Value} (E : Exa Z h a K) (F : FA Z h b n f) (wi : (Jvm.Cond.instantiable K kk).before a0 Z = true) : a ≠ b := by
  obtain ⟨c, A, -⟩ := F
  exact ne_arr E wi A
theorem own_ne0 {n : Nat} (h : 0 < n) (h2 : n < 2 ^ 31) : ¬ (Int32.ofNat n = 0) := fun q => by
  have a1 := own_of h2
  rw [q] at a1
  have e : (0 : Int32).toInt = 0 := by decide
  omega
theorem d35_0 : decode prog_19_method_3_code 0 = .ok (.aload_n 0, 1) := by decide +kernel
theorem d35_1 : decode prog_19_method_3_code 1 = .ok (.getfield 23, 3) := by decide +kernel
theorem d35_4 : decode prog_19_method_3_code 4 = .ok (.arraylength, 1) := by decide +kernel
theorem d35_5 : decode prog_19_method_3_code 5 = .ok (.ifCond .ne 4, 3) := by decide +kernel
theorem d35_9 : decode prog_19_method_3_code 9 = .ok (.aload_n 0, 1) := by decide +kernel
theorem d35_10 : decode prog_19_method_3_code 10 = .ok (.getfield 23, 3) := by decide +kernel
theorem d35_13 : decode prog_19_method_3_code 13 = .ok (.arraylength, 1) := by decide +kernel
theorem d35_14 : decode prog_19_method_3_code 14 = .ok (.aload_n 1, 1) := by decide +kernel
theorem d35_15 : decode prog_19_method_3_code 15 = .ok (.invokevirtual 9, 3) := by decide +kernel
theorem d35_18 : decode prog_19_method_3_code 18 = .ok (.if_icmp .ge 35, 3) := by decide +kernel
theorem d35_53 : decode prog_19_method_3_code 53 = .ok (.aload_n 0, 1) := by decide +kernel
theorem d35_54 : decode prog_19_method_3_code 54 = .ok (.getfield 23, 3) := by decide +kernel
theorem d35_57 : decode prog_19_method_3_code 57 = .ok (.aload_n 0, 1) := by decide +kernel
theorem d35_58 : decode prog_19_method_3_code 58 = .ok (.getfield 53, 3) := by decide +kernel
theorem d35_61 : decode prog_19_method_3_code 61 = .ok (.lload_n 2, 1) := by decide +kernel
theorem d35_62 : decode prog_19_method_3_code 62 = .ok (.lastore, 1) := by decide +kernel
theorem d35_63 : decode prog_19_method_3_code 63 = .ok (.aload_n 0, 1) := by decide +kernel
theorem d35_64 : decode prog_19_method_3_code 64 = .ok (.aload_n 0, 1) := by decide +kernel
theorem d35_65 : decode prog_19_method_3_code 65 = .ok (.iconst 1, 1) := by decide +kernel
theorem pd_24 : parseMethodDescriptor "(I)I" = some ⟨[.int], some .int⟩ := by decide +kernel
theorem d35_66 : decode prog_19_method_3_code 66 = .ok (.invokevirtual 46, 3) := by decide +kernel
theorem d35_69 : decode prog_19_method_3_code 69 = .ok (.putfield 53, 3) := by decide +kernel
theorem d35_72 : decode prog_19_method_3_code 72 = .ok (.return_, 1) := by decide +kernel
theorem ef_35 (m : MethodId) (x0 : Addr) (x1 : Addr) (x2 : Int64) : entryFrame m #[(.ref x0), (.ref x1), (.long x2)] 4 = mkF m 0 #[.val (.ref x0), .val (.ref x1), .val (.long x2), .second] [] := by first | (simp [entryFrame, mkF, argsToLocals, Value.category]; done) | rfl
abbrev nm_35 : MethodName := ⟨"com/example/steady_sluice/steadysluice/Scope", "admit", "(Lcom/example/steady_sluice/steadysluice/RuleSet;J)V"⟩
set_option maxRecDepth 65536 in
set_option maxHeartbeats 40000000 in
theorem rm35_A (l : Launch) (Z : State) (a0 : Array Value) (hw : ∀ d ∈ tables_1, d.before a0 Z = true) (ws : List Jvm.Cond) (a1 : Addr) (a2 : Addr) (arr : Addr) (n : Nat) (f : Nat → Int64) (hd : Nat) (cn : Int32) (now : Int64) (h0 : Heap) (n0 : Nat) (Z0 : n0 ≤ h0.size) (g0_a1 : n0 ≤ a1) (g0_arr : n0 ≤ arr) (hn : n ≤ 16) (hhd : hd < n) (PS : ScAt Z h0 a1 (.ref arr) (.int (Int32.ofNat hd))) (FAa : FA Z h0 arr n f) (ER : Exa Z h0 a2 "com/example/steady_sluice/steadysluice/RuleSet") (FL : Fld Z h0 a2 "com/example/steady_sluice/steadysluice/RuleSet" "largestCount" "I" (.int cn)) (FS : Fld Z h0 a2 "com/example/steady_sluice/steadysluice/RuleSet" "smallestCount" "I" (.int cn)) (FP : Fld Z h0 a2 "com/example/steady_sluice/steadysluice/RuleSet" "longestPeriodNanos" "J" (.long (1 : Int64))) (hc18 : ¬ ((Int32.ofNat n) < cn)) :
    MetFree l nm_35 (head1 (Jvm.Cond.code nm_35 prog_19_method_3_code 4 none :: ws) rr_1_0_0_20) (fun aa zU => aa = #[(.ref a1), (.ref a2), (.long now)] ∧ Z.Warmed39 zU.vm ∧ zU.heap = h0) (fun _ _ _ _ _ => True) (fun _ zU zo zU' => ∃ zv zL, zo = .returned zv ∧ QO (fun h => ScAt Z h a1 (.ref arr) (.int (Int32.ofNat (own_md (hd + 1) n))) ∧ FA Z h arr n (fun j => if j = hd then now else f j)) [a1, arr] h0 n0 zv zU'.heap zL ∧ FrameEnd zU zo zU' zL rr_1_0_0_20.cells rr_1_0_0_20.slots) := by
  refine MetFree.of_bodySF (plainFor_of_name pn_com_example_steady_sluice_steadysluice_Scope) hisR ?_
  intro p e s m args below meth c s₁ Bd hml0 hP hK
  obtain ⟨rfl, hZ, hh⟩ := hP
  have hx := Bd.exec
  have hby := Bd.bytes
  have hml : c.maxLocals = 4 := hml0
  have hown : s.vm.findClass "com/example/steady_sluice/steadysluice/Scope" = some m.cls := findClass_of_methodNamed Bd.named
  have hnm := (name_of_methodNamed Bd.named Bd.method).1
  have X0 : Stand p l e rr_1_0_0_20 s m #[(.ref a1), (.ref a2), (.long now)] below meth c s₁ [] 0 0 := Stand.of_body Bd
  have e0 : s₁.heap = h0 := by rw [← hh, Bd.state]; rfl
  have N0 := Fr.nil n0
  have pre0 : ∀ t, Steps p.tables e below (s₁.setTop (mkF m 0 #[.val (.ref a1), .val (.ref a2), .val (.long now), .second] [])) t → Steps p.tables e below (s₁.setTop (entryFrame m #[(.ref a1), (.ref a2), (.long now)] 4)) t := fun t k => castTop (ef_35 m a1 a2 now) k
  obtain ⟨Eob1, F0ob1, F1ob1⟩ := id PS
  have ne_a1_arr : a1 ≠ arr := FA.neExa Eob1 FAa (ow hw 200 rfl)
  have h31 : n < 2 ^ 31 := by omega
  obtain ⟨T2, X2, e2, st2⟩ := getF X0 hx hZ hown (host := "") (Or.inl (ow hw 212 rfl)) Via.refl e0 F0ob1 (g := (mkF m 1 #[.val (.ref a1), .val (.ref a2), .val (.long now), .second] [(.ref a1)])) rfl rfl (hb hby d35_1)
  obtain ⟨clq3, Arq3, Sq3, Hq3⟩ := id FAa
  obtain ⟨T4, X4, e4, st4⟩ := getF X2 hx hZ hown (host := "") (Or.inl (ow hw 212 rfl)) Via.refl e2 F0ob1 (g := (mkF m 10 #[.val (.ref a1), .val (.ref a2), .val (.long now), .second] [(.ref a1)])) rfl rfl (hb hby d35_10)
  obtain ⟨clq5, Arq5, Sq5, Hq5⟩ := id FAa
  obtain ⟨cq6, kq6, q6a, q6b, q6c⟩ := isOf hZ e4 ER
  obtain ⟨_, _, ⟨T6, L6, k6, n6⟩, -, X6, ⟨Lc6, hQ6, l6, y6, z6⟩, st6⟩ := X4.virtualBack hx (y := nm_33) (z := nm_33) hown (mvT hZ (ow hw 206 rfl)) (mvT hZ (ow hw 207 rfl)) (notFace_of_selects (args := #[]) (mvT hZ (ow hw 209 rfl))) (mvT hZ (ow hw 209 rfl)) (mvT hZ (ow hw 208 rfl)) (by decide) (backOf (W := 1) (rm33 l Z a0 hw [] a2 cn h0 n0 Z0 FL) hZ (ow hw 210 rfl) (ow hw 119 rfl) (by decide) (by decide)) q6a q6c (g := (mkF m 15 #[.val (.ref a1), .val (.ref a2), .val (.long now), .second] [(.ref a2), (.int (Int32.ofNat n))])) rfl (by rw [hml]; rfl) (Steps.refl _) (argsL := []) (rest := [(.int (Int32.ofNat n))]) (lenOf pd_14 rfl) rfl (by show 2 * 0 + _ ≤ _; exact Nat.le_of_eq rfl) (hb hby d35_15) (fun _ _ => ⟨rfl, e4, (by decide : 0 + 0 ≤ _), (by decide : 0 + 0 ≤ _)⟩)
  dsimp only [Pt.U, Pt.locs, Pt.cells, Pt.slots] at X6 l6 y6 z6 st6 hQ6
  subst l6 y6 z6
  obtain ⟨rfl, N6q, e6⟩ := hQ6
  have N6 := Fr.app N0 N6q
  obtain ⟨T7, X7, e7, st7⟩ := getF X6 hx hZ hown (host := "") (Or.inl (ow hw 212 rfl)) Via.refl e6 F0ob1 (g := (mkF m 54 #[.val (.ref a1), .val (.ref a2), .val (.long now), .second] [(.ref a1)])) rfl rfl (hb hby d35_54)
  obtain ⟨T8, X8, e8, st8⟩ := getF X7 hx hZ hown (host := "") (Or.inl (ow hw 224 rfl)) Via.refl e7 F1ob1 (g := (mkF m 58 #[.val (.ref a1), .val (.ref a2), .val (.long now), .second] [(.ref a1), (.ref arr)])) rfl rfl (hb hby d35_58)
  obtain ⟨clq9, Arq9, Sq9, Hq9⟩ := id FAa
  have hin10 : ¬ ((Int32.ofNat hd) < 0 ∨ clq9.slots.size ≤ ((Int32.ofNat hd)).toNatClampNeg) := fun z => z.elim (own_nn (by omega)) (fun z => by rw [Sq9, own_cl (by omega)] at z; have := hhd; omega)
  obtain ⟨T10, h10, X10, e10, W10, st10⟩ := stJ X8 hx hZ e8 Arq9 (j := (Int32.ofNat hd)) hin10 (g := (mkF m 62 #[.val (.ref a1), .val (.ref a2), .val (.long now), .second] [(.long now), (.int (Int32.ofNat hd)), (.ref arr)])) rfl rfl (hb hby d35_62)
  have W10' := W10
  rw [own_cl (by omega)] at W10'
  have V10 := FA.setv Arq9 Sq9 Hq9 W10'
  have N10 := Fr.snoc X10 N6 g0_arr
  have c11 := F0ob1.other W10 (Or.inl ne_a1_arr)
  have c12 := F1ob1.other W10 (Or.inl ne_a1_arr)
  have c14 := Eob1.wr W10
  obtain ⟨cq13, q13, q13'⟩ := c14.cell
  obtain ⟨_, _, ⟨T13, L13, k13, n13⟩, -, X13, ⟨Lc13, hQ13, l13, y13, z13⟩, st13⟩ := X10.privateBack hx (y := nm_36) hown (mvT hZ (ow hw 226 rfl)) (mvT hZ (ow hw 227 rfl)) (own_selP (mvT (args := #[]) hZ (ow hw 200 rfl)) (mvP hZ (ow hw 228 rfl) (args := #[])) (mvT hZ (ow hw 227 rfl)) (by decide)) (Cond.privateMethod_at (mvP hZ (ow hw 228 rfl) (args := #[]))) (mvT hZ (ow hw 229 rfl)) (by decide) (backOf (W := 1) (rm36 l Z a0 hw [] a1 arr n (fun j => if j = hd then now else f j) hd (1 : Int32) (hd + 1) h10 n0 (Nat.le_trans Z0 (Keep.of_wr W10).1) hn (own_add (j := 1) (by omega)) (by omega) c11 c12 V10) hZ (ow hw 229 rfl) (ow hw 201 rfl) (by decide) (by decide)) (g := (mkF m 66 #[.val (.ref a1), .val (.ref a2), .val (.long now), .second] [(.int (1 : Int32)), (.ref a1), (.ref a1)])) rfl (by rw [hml]; rfl) (Steps.refl _) (a := a1) (by rw [e10]; exact q13) q13' (argsL := [(.int (1 : Int32))]) (rest := [(.ref a1)]) (lenOf pd_24 rfl) rfl (by show 2 * 0 + _ ≤ _; exact Nat.le_of_eq rfl) (hb hby d35_66) (fun _ _ => ⟨rfl, e10, (by decide : 0 + 0 ≤ _), (by decide : 0 + 0 ≤ _)⟩)
  dsimp only [Pt.U, Pt.locs, Pt.cells, Pt.slots] at X13 l13 y13 z13 st13 hQ13
  subst l13 y13 z13
  obtain ⟨rfl, N13q, e13⟩ := hQ13
  have N13 := Fr.app N10 N13q
  obtain ⟨T15, h15, X15, e15, W15, st15⟩ := putF X13 hx hZ hown (host := "") (Or.inl (ow hw 224 rfl)) Via.refl e13 c12 c14 (Or.inl (ow hw 225 rfl)) (ow hw 200 rfl) (ty := .int) (by decide) rfl rfl (g := (mkF m 69 #[.val (.ref a1), .val (.ref a2), .val (.long now), .second] [(.int (Int32.ofNat (own_md (hd + 1) n))), (.ref a1)])) rfl rfl (hb hby d35_69)
  have Fw15 := c12.same W15
  have N15 := Fr.snoc X15 N13 g0_a1
  have kp16 : Keep h0 h15 [a1, arr] := (((Keep.refl h0 [a1, arr]).wr W10 (Or.inl (List.mem_of_getElem? (i := 1) rfl))).wr W15 (Or.inl (List.mem_of_getElem? (i := 0) rfl)))
  have c17 := c14.wr W15
  have c18 := c11.other W15 (Or.inr (slot_ne (Or.inl (ow hw 213 rfl)) (Or.inl (ow hw 225 rfl)) (by decide) (t := (.array .long)) (t' := .int) (by decide) (by decide)))
  have c19 := V10.other W15 (Ne.symm ne_a1_arr)
  obtain ⟨fsq, hr, hrun, hended, hW, hsame⟩ := X15.leave (v := none) (fun _ => rfl)
  refine ⟨_, _, pre0 _ ?_, hrun, hended, _, _, rfl, ?_, ⟨_, rfl⟩, hW, hsame.mono (by decide) (by decide)⟩
  · show Steps p.tables e below (s₁.setTop (mkF m 0 #[.val (.ref a1), .val (.ref a2), .val (.long now), .second] [])) _
    refine XS.aloadN X0.here hx rfl (hb hby d35_0) rfl rfl ?_
    refine st2 _ ?_
    show Steps p.tables e below (T2.setTop (mkF m 4 #[.val (.ref a1), .val (.ref a2), .val (.long now), .second] [(.ref arr)])) _
    refine X2.arraylength hx (by rw [e2]; exact Arq3.1) (State.isArrayOf_alike hZ.alike Arq3.2.1) (g := (mkF m 4 #[.val (.ref a1), .val (.ref a2), .val (.long now), .second] [(.ref arr)])) rfl rfl (hb hby d35_4) _ ?_
    rw [Sq3]
    show Steps p.tables e below (T2.setTop (mkF m 5 #[.val (.ref a1), .val (.ref a2), .val (.long now), .second] [(.int (Int32.ofNat n))])) _
    refine XS.ifYes X2.here hx rfl (pc0 := 5) (pc' := 9) rfl (hb hby d35_5) rfl ((if0 _ _).trans (feq ((own_ne0 (by omega) h31) : ¬ ((Int32.ofNat n) = (0 : Int32)))).2) (by decide) (by decide) ?_
    refine XS.aloadN X2.here hx rfl (hb hby d35_9) rfl rfl ?_
    show Steps p.tables e below (T2.setTop (mkF m 10 #[.val (.ref a1), .val (.ref a2), .val (.long now), .second] [(.ref a1)])) _
    refine st4 _ ?_
    show Steps p.tables e below (T4.setTop (mkF m 13 #[.val (.ref a1), .val (.ref a2), .val (.long now), .second] [(.ref arr)])) _
    refine X4.arraylength hx (by rw [e4]; exact Arq5.1) (State.isArrayOf_alike hZ.alike Arq5.2.1) (g := (mkF m 13 #[.val (.ref a1), .val (.ref a2), .val (.long now), .second] [(.ref arr)])) rfl rfl (hb hby d35_13) _ ?_
    rw [Sq5]
    show Steps p.tables e below (T4.setTop (mkF m 14 #[.val (.ref a1), .val (.ref a2), .val (.long now), .second] [(.int (Int32.ofNat n))])) _
    refine XS.aloadN X4.here hx rfl (hb hby d35_14) rfl rfl ?_
    refine st6.trans ?_
    show Steps p.tables e below (T6.setTop (mkF m 18 #[.val (.ref a1), .val (.ref a2), .val (.long now), .second] [(.int cn), (.int (Int32.ofNat n))])) _
    refine XS.icmpYes X6.here hx rfl (pc0 := 18) (pc' := 53) rfl (hb hby d35_18) rfl (flt hc18).2.1 (by decide) (by decide) ?_
    refine XS.aloadN X6.here hx rfl (hb hby d35_53) rfl rfl ?_
    refine st7 _ ?_
    show Steps p.tables e below (T7.setTop (mkF m 57 #[.val (.ref a1), .val (.ref a2), .val (.long now), .second] [(.ref arr)])) _
    refine XS.aloadN X7.here hx rfl (hb hby d35_57) rfl rfl ?_
    refine st8 _ ?_
    refine XS.lloadN X8.here hx rfl (hb hby d35_61) rfl ?_
    show Steps p.tables e below (T8.setTop (mkF m 62 #[.val (.ref a1), .val (.ref a2), .val (.long now), .second] [(.long now), (.int (Int32.ofNat hd)), (.ref arr)])) _
    refine st10 _ ?_
    refine XS.aloadN X10.here hx rfl (hb hby d35_63) rfl rfl ?_
    refine XS.aloadN X10.here hx rfl (hb hby d35_64) rfl rfl ?_
    show Steps p.tables e below (T10.setTop (mkF m 65 #[.val (.ref a1), .val (.ref a2), .val (.long now), .second] [(.ref a1), (.ref a1)])) _
    refine XS.iconst X10.here hx rfl (hb hby d35_65) ?_
    refine st13.trans ?_
    refine st15 _ ?_
    show Steps p.tables e below (T15.setTop (mkF m 72 #[.val (.ref a1), .val (.ref a2), .val (.long now), .second] [])) _
    exact X15.returnOut hx Bd.returns (hb hby d35_72) hr
  · show QO (fun h => ScAt Z h a1 (.ref arr) (.int (Int32.ofNat (own_md (hd + 1) n))) ∧ FA Z h arr n (fun j => if j = hd then now else f j)) [a1, arr] h0 n0 _ T15.heap _
    rw [e15]
    exact ⟨rfl, N15, kp16, ⟨c17, c18, Fw15⟩, c19⟩
theorem d35_21 : decode prog_19_method_3_code 21 = .ok (.aload_n 0, 1) := by decide +kernel
theorem d35_22 : decode prog_19_method_3_code 22 = .ok (.getfield 23, 3) := by decide +kernel
theorem d35_25 : decode prog_19_method_3_code 25 = .ok (.aload_n 0, 1) := by decide +kernel
theorem d35_26 : decode prog_19_method_3_code 26 = .ok (.getfield 53, 3) := by decide +kernel
theorem d35_29 : decode prog_19_method_3_code 29 = .ok (.laload, 1) := by decide +kernel
theorem d35_30 : decode prog_19_method_3_code 30 = .ok (.lload_n 2, 1) := by decide +kernel
theorem d35_31 : decode prog_19_method_3_code 31 = .ok (.aload_n 1, 1) := by decide +kernel
theorem d35_32 : decode prog_19_method_3_code 32 = .ok (.aload_n 0, 1) := by decide +kernel
theorem d35_33 : decode prog_19_method_3_code 33 = .ok (.getfield 23, 3) := by decide +kernel
theorem d35_36 : decode prog_19_method_3_code 36 = .ok (.arraylength, 1) := by decide +kernel
theorem pd_25 : parseMethodDescriptor "(I)J" = some ⟨[.int], some .long⟩ := by decide +kernel
theorem d35_37 : decode prog_19_method_3_code 37 = .ok (.invokevirtual 57, 3) := by decide +kernel
theorem d35_40 : decode prog_19_method_3_code 40 = .ok (.lsub, 1) := by decide +kernel
theorem d35_41 : decode prog_19_method_3_code 41 = .ok (.lcmp, 1) := by decide +kernel
theorem d35_42 : decode prog_19_method_3_code 42 = .ok (.ifCond .le 11, 3) := by decide +kernel
set_option maxRecDepth 65536 in
set_option maxHeartbeats 40000000 in
theorem rm35_B (l : Launch) (Z : State) (a0 : Array Value) (hw : ∀ d ∈ tables_1, d.before a0 Z = true) (ws : List Jvm.Cond) (a1 : Addr) (a2 : Addr) (arr : Addr) (n : Nat) (f : Nat → Int64) (hd : Nat) (cn : Int32) (now : Int64) (h0 : Heap) (n0 : Nat) (Z0 : n0 ≤ h0.size) (g0_a1 : n0 ≤ a1) (g0_arr : n0 ≤ arr) (hn : n ≤ 16) (hhd : hd < n) (PS : ScAt Z h0 a1 (.ref arr) (.int (Int32.ofNat hd))) (FAa : FA Z h0 arr n f) (ER : Exa Z h0 a2 "com/example/steady_sluice/steadysluice/RuleSet") (FL : Fld Z h0 a2 "com/example/steady_sluice/steadysluice/RuleSet" "largestCount" "I" (.int cn)) (FS : Fld Z h0 a2 "com/example/steady_sluice/steadysluice/RuleSet" "smallestCount" "I" (.int cn)) (FP : Fld Z h0 a2 "com/example/steady_sluice/steadysluice/RuleSet" "longestPeriodNanos" "J" (.long (1 : Int64))) (hc18 : (Int32.ofNat n) < cn) (hc42 : ¬ ((now - (1 : Int64)) < (f hd))) :
    MetFree l nm_35 (head1 (Jvm.Cond.code nm_35 prog_19_method_3_code 4 none :: ws) rr_1_0_0_20) (fun aa zU => aa = #[(.ref a1), (.ref a2), (.long now)] ∧ Z.Warmed39 zU.vm ∧ zU.heap = h0) (fun _ _ _ _ _ => True) (fun _ zU zo zU' => ∃ zv zL, zo = .returned zv ∧ QO (fun h => ScAt Z h a1 (.ref arr) (.int (Int32.ofNat (own_md (hd + 1) n))) ∧ FA Z h arr n (fun j => if j = hd then now else f j)) [a1, arr] h0 n0 zv zU'.heap zL ∧ FrameEnd zU zo zU' zL rr_1_0_0_20.cells rr_1_0_0_20.slots) := by
  refine MetFree.of_bodySF (plainFor_of_name pn_com_example_steady_sluice_steadysluice_Scope) hisR ?_
  intro p e s m args below meth c s₁ Bd hml0 hP hK
  obtain ⟨rfl, hZ, hh⟩ := hP
  have hx := Bd.exec
  have hby := Bd.bytes
  have hml : c.maxLocals = 4 := hml0
  have hown : s.vm.findClass "com/example/steady_sluice/steadysluice/Scope" = some m.cls := findClass_of_methodNamed Bd.named
  have hnm := (name_of_methodNamed Bd.named Bd.method).1
  have X0 : Stand p l e rr_1_0_0_20 s m #[(.ref a1), (.ref a2), (.long now)] below meth c s₁ [] 0 0 := Stand.of_body Bd
  have e0 : s₁.heap = h0 := by rw [← hh, Bd.state]; rfl
  have N0 := Fr.nil n0
  have pre0 : ∀ t, Steps p.tables e below (s₁.setTop (mkF m 0 #[.val (.ref a1), .val (.ref a2), .val (.long now), .second] [])) t → Steps p.tables e below (s₁.setTop (entryFrame m #[(.ref a1), (.ref a2), (.long now)] 4)) t := fun t k => castTop (ef_35 m a1 a2 now) k
  obtain ⟨Eob1, F0ob1, F1ob1⟩ := id PS
  have ne_a1_arr : a1 ≠ arr := FA.neExa Eob1 FAa (ow hw 200 rfl)
  have h31 : n < 2 ^ 31 := by omega
  obtain ⟨T2, X2, e2, st2⟩ := getF X0 hx hZ hown (host := "") (Or.inl (ow hw 212 rfl)) Via.refl e0 F0ob1 (g := (mkF m 1 #[.val (.ref a1), .val (.ref a2), .val (.long now), .second] [(.ref a1)])) rfl rfl (hb hby d35_1)
  obtain ⟨clq3, Arq3, Sq3, Hq3⟩ := id FAa
  obtain ⟨T4, X4, e4, st4⟩ := getF X2 hx hZ hown (host := "") (Or.inl (ow hw 212 rfl)) Via.refl e2 F0ob1 (g := (mkF m 10 #[.val (.ref a1), .val (.ref a2), .val (.long now), .second] [(.ref a1)])) rfl rfl (hb hby d35_10)
  obtain ⟨clq5, Arq5, Sq5, Hq5⟩ := id FAa
  obtain ⟨cq6, kq6, q6a, q6b, q6c⟩ := isOf hZ e4 ER
  obtain ⟨_, _, ⟨T6, L6, k6, n6⟩, -, X6, ⟨Lc6, hQ6, l6, y6, z6⟩, st6⟩ := X4.virtualBack hx (y := nm_33) (z := nm_33) hown (mvT hZ (ow hw 206 rfl)) (mvT hZ (ow hw 207 rfl)) (notFace_of_selects (args := #[]) (mvT hZ (ow hw 209 rfl))) (mvT hZ (ow hw 209 rfl)) (mvT hZ (ow hw 208 rfl)) (by decide) (backOf (W := 1) (rm33 l Z a0 hw [] a2 cn h0 n0 Z0 FL) hZ (ow hw 210 rfl) (ow hw 119 rfl) (by decide) (by decide)) q6a q6c (g := (mkF m 15 #[.val (.ref a1), .val (.ref a2), .val (.long now), .second] [(.ref a2), (.int (Int32.ofNat n))])) rfl (by rw [hml]; rfl) (Steps.refl _) (argsL := []) (rest := [(.int (Int32.ofNat n))]) (lenOf pd_14 rfl) rfl (by show 2 * 0 + _ ≤ _; exact Nat.le_of_eq rfl) (hb hby d35_15) (fun _ _ => ⟨rfl, e4, (by decide : 0 + 0 ≤ _), (by decide : 0 + 0 ≤ _)⟩)
  dsimp only [Pt.U, Pt.locs, Pt.cells, Pt.slots] at X6 l6 y6 z6 st6 hQ6
  subst l6 y6 z6
  obtain ⟨rfl, N6q, e6⟩ := hQ6
  have N6 := Fr.app N0 N6q
  obtain ⟨T7, X7, e7, st7⟩ := getF X6 hx hZ hown (host := "") (Or.inl (ow hw 212 rfl)) Via.refl e6 F0ob1 (g := (mkF m 22 #[.val (.ref a1), .val (.ref a2), .val (.long now), .second] [(.ref a1)])) rfl rfl (hb hby d35_22)
  obtain ⟨T8, X8, e8, st8⟩ := getF X7 hx hZ hown (host := "") (Or.inl (ow hw 224 rfl)) Via.refl e7 F1ob1 (g := (mkF m 26 #[.val (.ref a1), .val (.ref a2), .val (.long now), .second] [(.ref a1), (.ref arr)])) rfl rfl (hb hby d35_26)
  obtain ⟨clq9, Arq9, Sq9, Hq9⟩ := id FAa
  have hin10 : ¬ ((Int32.ofNat hd) < 0 ∨ clq9.slots.size ≤ ((Int32.ofNat hd)).toNatClampNeg) := fun z => z.elim (own_nn (by omega)) (fun z => by rw [Sq9, own_cl (by omega)] at z; have := hhd; omega)
  have hat10 : clq9.slots[((Int32.ofNat hd)).toNatClampNeg]? = some (.long (f hd)) := by rw [own_cl (by omega)]; exact Hq9 _ hhd
  obtain ⟨T11, X11, e11, st11⟩ := getF X8 hx hZ hown (host := "") (Or.inl (ow hw 212 rfl)) Via.refl e8 F0ob1 (g := (mkF m 33 #[.val (.ref a1), .val (.ref a2), .val (.long now), .second] [(.ref a1), (.ref a2), (.long now), (.long (f hd))])) rfl rfl (hb hby d35_33)
  obtain ⟨clq12, Arq12, Sq12, Hq12⟩ := id FAa
  obtain ⟨cq13, kq13, q13a, q13b, q13c⟩ := isOf hZ e11 ER
  obtain ⟨_, _, ⟨T13, L13, k13, n13⟩, -, X13, ⟨Lc13, hQ13, l13, y13, z13⟩, st13⟩ := X11.virtualBack hx (y := nm_38) (z := nm_38) hown (mvT hZ (ow hw 235 rfl)) (mvT hZ (ow hw 236 rfl)) (notFace_of_selects (args := #[]) (mvT hZ (ow hw 238 rfl))) (mvT hZ (ow hw 238 rfl)) (mvT hZ (ow hw 237 rfl)) (by decide) (backOf (W := 4) (rm38 l Z a0 hw [] a2 (Int32.ofNat n) cn h0 n0 Z0 FS FP hc18) hZ (ow hw 239 rfl) (ow hw 119 rfl) (by decide) (by decide)) q13a q13c (g := (mkF m 37 #[.val (.ref a1), .val (.ref a2), .val (.long now), .second] [(.int (Int32.ofNat n)), (.ref a2), (.long now), (.long (f hd))])) rfl (by rw [hml]; rfl) (Steps.refl _) (argsL := [(.int (Int32.ofNat n))]) (rest := [(.long now), (.long (f hd))]) (lenOf pd_25 rfl) rfl (by show 2 * 0 + _ ≤ _; exact Nat.le_of_eq rfl) (hb hby d35_37) (fun _ _ => ⟨rfl, e11, (by decide : 0 + 0 ≤ _), (by decide : 0 + 0 ≤ _)⟩)
  dsimp only [Pt.U, Pt.locs, Pt.cells, Pt.slots] at X13 l13 y13 z13 st13 hQ13
  subst l13 y13 z13
  obtain ⟨rfl, N13q, e13⟩ := hQ13
  have N13 := Fr.app N6 N13q
  obtain ⟨T14, X14, e14, st14⟩ := getF X13 hx hZ hown (host := "") (Or.inl (ow hw 212 rfl)) Via.refl e13 F0ob1 (g := (mkF m 54 #[.val (.ref a1), .val (.ref a2), .val (.long now), .second] [(.ref a1)])) rfl rfl (hb hby d35_54)
  obtain ⟨T15, X15, e15, st15⟩ := getF X14 hx hZ hown (host := "") (Or.inl (ow hw 224 rfl)) Via.refl e14 F1ob1 (g := (mkF m 58 #[.val (.ref a1), .val (.ref a2), .val (.long now), .second] [(.ref a1), (.ref arr)])) rfl rfl (hb hby d35_58)
  obtain ⟨clq16, Arq16, Sq16, Hq16⟩ := id FAa
  have hin17 : ¬ ((Int32.ofNat hd) < 0 ∨ clq16.slots.size ≤ ((Int32.ofNat hd)).toNatClampNeg) := fun z => z.elim (own_nn (by omega)) (fun z => by rw [Sq16, own_cl (by omega)] at z; have := hhd; omega)
  obtain ⟨T17, h17, X17, e17, W17, st17⟩ := stJ X15 hx hZ e15 Arq16 (j := (Int32.ofNat hd)) hin17 (g := (mkF m 62 #[.val (.ref a1), .val (.ref a2), .val (.long now), .second] [(.long now), (.int (Int32.ofNat hd)), (.ref arr)])) rfl rfl (hb hby d35_62)
  have W17' := W17
  rw [own_cl (by omega)] at W17'
  have V17 := FA.setv Arq16 Sq16 Hq16 W17'
  have N17 := Fr.snoc X17 N13 g0_arr
  have c18 := F0ob1.other W17 (Or.inl ne_a1_arr)
  have c19 := F1ob1.other W17 (Or.inl ne_a1_arr)
  have c21 := Eob1.wr W17
  obtain ⟨cq20, q20, q20'⟩ := c21.cell
  obtain ⟨_, _, ⟨T20, L20, k20, n20⟩, -, X20, ⟨Lc20, hQ20, l20, y20, z20⟩, st20⟩ := X17.privateBack hx (y := nm_36) hown (mvT hZ (ow hw 226 rfl)) (mvT hZ (ow hw 227 rfl)) (own_selP (mvT (args := #[]) hZ (ow hw 200 rfl)) (mvP hZ (ow hw 228 rfl) (args := #[])) (mvT hZ (ow hw 227 rfl)) (by decide)) (Cond.privateMethod_at (mvP hZ (ow hw 228 rfl) (args := #[]))) (mvT hZ (ow hw 229 rfl)) (by decide) (backOf (W := 1) (rm36 l Z a0 hw [] a1 arr n (fun j => if j = hd then now else f j) hd (1 : Int32) (hd + 1) h17 n0 (Nat.le_trans Z0 (Keep.of_wr W17).1) hn (own_add (j := 1) (by omega)) (by omega) c18 c19 V17) hZ (ow hw 229 rfl) (ow hw 201 rfl) (by decide) (by decide)) (g := (mkF m 66 #[.val (.ref a1), .val (.ref a2), .val (.long now), .second] [(.int (1 : Int32)), (.ref a1), (.ref a1)])) rfl (by rw [hml]; rfl) (Steps.refl _) (a := a1) (by rw [e17]; exact q20) q20' (argsL := [(.int (1 : Int32))]) (rest := [(.ref a1)]) (lenOf pd_24 rfl) rfl (by show 2 * 0 + _ ≤ _; exact Nat.le_of_eq rfl) (hb hby d35_66) (fun _ _ => ⟨rfl, e17, (by decide : 0 + 0 ≤ _), (by decide : 0 + 0 ≤ _)⟩)
  dsimp only [Pt.U, Pt.locs, Pt.cells, Pt.slots] at X20 l20 y20 z20 st20 hQ20
  subst l20 y20 z20
  obtain ⟨rfl, N20q, e20⟩ := hQ20
  have N20 := Fr.app N17 N20q
  obtain ⟨T22, h22, X22, e22, W22, st22⟩ := putF X20 hx hZ hown (host := "") (Or.inl (ow hw 224 rfl)) Via.refl e20 c19 c21 (Or.inl (ow hw 225 rfl)) (ow hw 200 rfl) (ty := .int) (by decide) rfl rfl (g := (mkF m 69 #[.val (.ref a1), .val (.ref a2), .val (.long now), .second] [(.int (Int32.ofNat (own_md (hd + 1) n))), (.ref a1)])) rfl rfl (hb hby d35_69)
  have Fw22 := c19.same W22
  have N22 := Fr.snoc X22 N20 g0_a1
  have kp23 : Keep h0 h22 [a1, arr] := (((Keep.refl h0 [a1, arr]).wr W17 (Or.inl (List.mem_of_getElem? (i := 1) rfl))).wr W22 (Or.inl (List.mem_of_getElem? (i := 0) rfl)))
  have c24 := c21.wr W22
  have c25 := c18.other W22 (Or.inr (slot_ne (Or.inl (ow hw 213 rfl)) (Or.inl (ow hw 225 rfl)) (by decide) (t := (.array .long)) (t' := .int) (by decide) (by decide)))
  have c26 := V17.other W22 (Ne.symm ne_a1_arr)
  obtain ⟨fsq, hr, hrun, hended, hW, hsame⟩ := X22.leave (v := none) (fun _ => rfl)
  refine ⟨_, _, pre0 _ ?_, hrun, hended, _, _, rfl, ?_, ⟨_, rfl⟩, hW, hsame.mono (by decide) (by decide)⟩
  · show Steps p.tables e below (s₁.setTop (mkF m 0 #[.val (.ref a1), .val (.ref a2), .val (.long now), .second] [])) _
    refine XS.aloadN X0.here hx rfl (hb hby d35_0) rfl rfl ?_
    refine st2 _ ?_
    show Steps p.tables e below (T2.setTop (mkF m 4 #[.val (.ref a1), .val (.ref a2), .val (.long now), .second] [(.ref arr)])) _
    refine X2.arraylength hx (by rw [e2]; exact Arq3.1) (State.isArrayOf_alike hZ.alike Arq3.2.1) (g := (mkF m 4 #[.val (.ref a1), .val (.ref a2), .val (.long now), .second] [(.ref arr)])) rfl rfl (hb hby d35_4) _ ?_
    rw [Sq3]
    show Steps p.tables e below (T2.setTop (mkF m 5 #[.val (.ref a1), .val (.ref a2), .val (.long now), .second] [(.int (Int32.ofNat n))])) _
    refine XS.ifYes X2.here hx rfl (pc0 := 5) (pc' := 9) rfl (hb hby d35_5) rfl ((if0 _ _).trans (feq ((own_ne0 (by omega) h31) : ¬ ((Int32.ofNat n) = (0 : Int32)))).2) (by decide) (by decide) ?_
    refine XS.aloadN X2.here hx rfl (hb hby d35_9) rfl rfl ?_
    show Steps p.tables e below (T2.setTop (mkF m 10 #[.val (.ref a1), .val (.ref a2), .val (.long now), .second] [(.ref a1)])) _
    refine st4 _ ?_
    show Steps p.tables e below (T4.setTop (mkF m 13 #[.val (.ref a1), .val (.ref a2), .val (.long now), .second] [(.ref arr)])) _
    refine X4.arraylength hx (by rw [e4]; exact Arq5.1) (State.isArrayOf_alike hZ.alike Arq5.2.1) (g := (mkF m 13 #[.val (.ref a1), .val (.ref a2), .val (.long now), .second] [(.ref arr)])) rfl rfl (hb hby d35_13) _ ?_
    rw [Sq5]
    show Steps p.tables e below (T4.setTop (mkF m 14 #[.val (.ref a1), .val (.ref a2), .val (.long now), .second] [(.int (Int32.ofNat n))])) _
    refine XS.aloadN X4.here hx rfl (hb hby d35_14) rfl rfl ?_
    refine st6.trans ?_
    show Steps p.tables e below (T6.setTop (mkF m 18 #[.val (.ref a1), .val (.ref a2), .val (.long now), .second] [(.int cn), (.int (Int32.ofNat n))])) _
    refine XS.icmpNo X6.here hx rfl (hb hby d35_18) rfl (tlt hc18).2.1 ?_
    refine XS.aloadN X6.here hx rfl (hb hby d35_21) rfl rfl ?_
    refine st7 _ ?_
    show Steps p.tables e below (T7.setTop (mkF m 25 #[.val (.ref a1), .val (.ref a2), .val (.long now), .second] [(.ref arr)])) _
    refine XS.aloadN X7.here hx rfl (hb hby d35_25) rfl rfl ?_
    refine st8 _ ?_
    refine X8.laload hx (j := (Int32.ofNat hd)) (v := (.long (f hd))) (by rw [e8]; exact Arq9.1) (State.isArrayOf_alike hZ.alike Arq9.2.1) Arq9.2.2 hin10 hat10 (g := (mkF m 29 #[.val (.ref a1), .val (.ref a2), .val (.long now), .second] [(.int (Int32.ofNat hd)), (.ref arr)])) rfl rfl (hb hby d35_29) _ ?_
    show Steps p.tables e below (T8.setTop (mkF m 30 #[.val (.ref a1), .val (.ref a2), .val (.long now), .second] [(.long (f hd))])) _
    refine XS.lloadN X8.here hx rfl (hb hby d35_30) rfl ?_
    refine XS.aloadN X8.here hx rfl (hb hby d35_31) rfl rfl ?_
    refine XS.aloadN X8.here hx rfl (hb hby d35_32) rfl rfl ?_
    show Steps p.tables e below (T8.setTop (mkF m 33 #[.val (.ref a1), .val (.ref a2), .val (.long now), .second] [(.ref a1), (.ref a2), (.long now), (.long (f hd))])) _
    refine st11 _ ?_
    show Steps p.tables e below (T11.setTop (mkF m 36 #[.val (.ref a1), .val (.ref a2), .val (.long now), .second] [(.ref arr), (.ref a2), (.long now), (.long (f hd))])) _
    refine X11.arraylength hx (by rw [e11]; exact Arq12.1) (State.isArrayOf_alike hZ.alike Arq12.2.1) (g := (mkF m 36 #[.val (.ref a1), .val (.ref a2), .val (.long now), .second] [(.ref arr), (.ref a2), (.long now), (.long (f hd))])) rfl rfl (hb hby d35_36) _ ?_
    rw [Sq12]
    show Steps p.tables e below (T11.setTop (mkF m 37 #[.val (.ref a1), .val (.ref a2), .val (.long now), .second] [(.int (Int32.ofNat n)), (.ref a2), (.long now), (.long (f hd))])) _
    refine st13.trans ?_
    refine XS.lsub X13.here hx rfl (hb hby d35_40) rfl ?_
    show Steps p.tables e below (T13.setTop (mkF m 41 #[.val (.ref a1), .val (.ref a2), .val (.long now), .second] [(.long (now - (1 : Int64))), (.long (f hd))])) _
    refine XS.lcmp X13.here hx rfl (hb hby d35_41) rfl ?_
    refine XS.ifYes X13.here hx rfl (pc0 := 42) (pc' := 53) rfl (hb hby d35_42) rfl ((if0 _ _).trans (flt (fun z => hc42 ((lw_gt _ _).mp z))).2.2.2) (by decide) (by decide) ?_
    refine XS.aloadN X13.here hx rfl (hb hby d35_53) rfl rfl ?_
    show Steps p.tables e below (T13.setTop (mkF m 54 #[.val (.ref a1), .val (.ref a2), .val (.long now), .second] [(.ref a1)])) _
    refine st14 _ ?_
    refine XS.aloadN X14.here hx rfl (hb hby d35_57) rfl rfl ?_
    refine st15 _ ?_
    show Steps p.tables e below (T15.setTop (mkF m 61 #[.val (.ref a1), .val (.ref a2), .val (.long now), .second] [(.int (Int32.ofNat hd)), (.ref arr)])) _
    refine XS.lloadN X15.here hx rfl (hb hby d35_61) rfl ?_
    refine st17 _ ?_
    refine XS.aloadN X17.here hx rfl (hb hby d35_63) rfl rfl ?_
    show Steps p.tables e below (T17.setTop (mkF m 64 #[.val (.ref a1), .val (.ref a2), .val (.long now), .second] [(.ref a1)])) _
    refine XS.aloadN X17.here hx rfl (hb hby d35_64) rfl rfl ?_
    refine XS.iconst X17.here hx rfl (hb hby d35_65) ?_
    refine st20.trans ?_
    show Steps p.tables e below (T20.setTop (mkF m 69 #[.val (.ref a1), .val (.ref a2), .val (.long now), .second] [(.int (Int32.ofNat (own_md (hd + 1) n))), (.ref a1)])) _
    refine st22 _ ?_
    show Steps p.tables e below (T22.setTop (mkF m 72 #[.val (.ref a1), .val (.ref a2), .val (.long now), .second] [])) _
    exact X22.returnOut hx Bd.returns (hb hby d35_72) hr
  · show QO (fun h => ScAt Z h a1 (.ref arr) (.int (Int32.ofNat (own_md (hd + 1) n))) ∧ FA Z h arr n (fun j => if j = hd then now else f j)) [a1, arr] h0 n0 _ T22.heap _
    rw [e22]
    exact ⟨rfl, N22, kp23, ⟨c24, c25, Fw22⟩, c26⟩
theorem rm35 (l : Launch) (Z : State) (a0 : Array Value) (hw : ∀ d ∈ tables_1, d.before a0 Z = true) (ws : List Jvm.Cond) (a1 : Addr) (a2 : Addr) (arr : Addr) (n : Nat) (f : Nat → Int64) (hd : Nat) (cn : Int32) (now : Int64) (h0 : Heap) (n0 : Nat) (Z0 : n0 ≤ h0.size) (g0_a1 : n0 ≤ a1) (g0_arr : n0 ≤ arr) (hn : n ≤ 16) (hhd : hd < n) (PS : ScAt Z h0 a1 (.ref arr) (.int (Int32.ofNat hd))) (FAa : FA Z h0 arr n f) (ER : Exa Z h0 a2 "com/example/steady_sluice/steadysluice/RuleSet") (FL : Fld Z h0 a2 "com/example/steady_sluice/steadysluice/RuleSet" "largestCount" "I" (.int cn)) (FS : Fld Z h0 a2 "com/example/steady_sluice/steadysluice/RuleSet" "smallestCount" "I" (.int cn)) (FP : Fld Z h0 a2 "com/example/steady_sluice/steadysluice/RuleSet" "longestPeriodNanos" "J" (.long (1 : Int64))) (hB : Int32.ofNat n < cn → f hd = (-9223372036854775808 : Int64)) :
    MetFree l nm_35 (head1 (Jvm.Cond.code nm_35 prog_19_method_3_code 4 none :: ws) rr_1_0_0_20) (fun aa zU => aa = #[(.ref a1), (.ref a2), (.long now)] ∧ Z.Warmed39 zU.vm ∧ zU.heap = h0) (fun _ _ _ _ _ => True) (fun _ zU zo zU' => ∃ zv zL, zo = .returned zv ∧ QO (fun h => ScAt Z h a1 (.ref arr) (.int (Int32.ofNat (own_md (hd + 1) n))) ∧ FA Z h arr n (fun j => if j = hd then now else f j)) [a1, arr] h0 n0 zv zU'.heap zL ∧ FrameEnd zU zo zU' zL rr_1_0_0_20.cells rr_1_0_0_20.slots) := by
  by_cases q : Int32.ofNat n < cn
  · exact rm35_B l Z a0 hw ws a1 a2 arr n f hd cn now h0 n0 Z0 g0_a1 g0_arr hn hhd PS FAa ER FL FS FP q (by rw [hB q]; exact own_nmin _)
  · exact rm35_A l Z a0 hw ws a1 a2 arr n f hd cn now h0 n0 Z0 g0_a1 g0_arr hn hhd PS FAa ER FL FS FP q
theorem d37_0 : decode prog_19_method_4_code 0 = .ok (.aload_n 0, 1) := by decide +kernel
theorem d37_1 : decode prog_19_method_4_code 1 = .ok (.getfield 23, 3) := by decide +kernel
theorem d37_4 : decode prog_19_method_4_code 4 = .ok (.aload_n 0, 1) := by decide +kernel
theorem d37_5 : decode prog_19_method_4_code 5 = .ok (.aload_n 0, 1) := by decide +kernel
theorem d37_6 : decode prog_19_method_4_code 6 = .ok (.getfield 23, 3) := by decide +kernel
theorem d37_9 : decode prog_19_method_4_code 9 = .ok (.arraylength, 1) := by decide +kernel
theorem d37_10 : decode prog_19_method_4_code 10 = .ok (.iconst 1, 1) := by decide +kernel
theorem d37_11 : decode prog_19_method_4_code 11 = .ok (.isub, 1) := by decide +kernel
theorem d37_12 : decode prog_19_method_4_code 12 = .ok (.invokevirtual 46, 3) := by decide +kernel
theorem d37_15 : decode prog_19_method_4_code 15 = .ok (.laload, 1) := by decide +kernel
theorem d37_16 : decode prog_19_method_4_code 16 = .ok (.lreturn, 1) := by decide +kernel
theorem ef_37 (m : MethodId) (x0 : Addr) : entryFrame m #[(.ref x0)] 1 = mkF m 0 #[.val (.ref x0)] [] := by first | (simp [entryFrame, mkF, argsToLocals, Value.category]; done) | rfl
abbrev nm_37 : MethodName := ⟨"com/example/steady_sluice/steadysluice/Scope", "newestAdmission", "()J"⟩
set_option maxRecDepth 65536 in
set_option maxHeartbeats 40000000 in
theorem rm37 (l : Launch) (Z : State) (a0 : Array Value) (hw : ∀ d ∈ tables_1, d.before a0 Z = true) (ws : List Jvm.Cond) (a1 : Addr) (arr : Addr) (n : Nat) (f : Nat → Int64) (hd : Nat) (h0 : Heap) (n0 : Nat) (Z0 : n0 ≤ h0.size) (hn : n ≤ 16) (hhd : hd < n) (PS : ScAt Z h0 a1 (.ref arr) (.int (Int32.ofNat hd))) (FAa : FA Z h0 arr n f) :
    MetFree l nm_37 (head1 (Jvm.Cond.code nm_37 prog_19_method_4_code 1 (some .long) :: ws) rr_1_0_0_15) (fun aa zU => aa = #[(.ref a1)] ∧ Z.Warmed39 zU.vm ∧ zU.heap = h0) (fun _ _ _ _ _ => True) (fun _ zU zo zU' => ∃ zv zL, zo = .returned zv ∧ QP (some (.long (f (own_md (hd + (n - 1)) n)))) h0 n0 zv zU'.heap zL ∧ FrameEnd zU zo zU' zL rr_1_0_0_15.cells rr_1_0_0_15.slots) := by
  refine MetFree.of_bodySF (plainFor_of_name pn_com_example_steady_sluice_steadysluice_Scope) hisR ?_
  intro p e s m args below meth c s₁ Bd hml0 hP hK
  obtain ⟨rfl, hZ, hh⟩ := hP
  have hx := Bd.exec
  have hby := Bd.bytes
  have hml : c.maxLocals = 1 := hml0
  have hown : s.vm.findClass "com/example/steady_sluice/steadysluice/Scope" = some m.cls := findClass_of_methodNamed Bd.named
  have hnm := (name_of_methodNamed Bd.named Bd.method).1
  have X0 : Stand p l e rr_1_0_0_15 s m #[(.ref a1)] below meth c s₁ [] 0 0 := Stand.of_body Bd
  have e0 : s₁.heap = h0 := by rw [← hh, Bd.state]; rfl
  have N0 := Fr.nil n0
  have pre0 : ∀ t, Steps p.tables e below (s₁.setTop (mkF m 0 #[.val (.ref a1)] [])) t → Steps p.tables e below (s₁.setTop (entryFrame m #[(.ref a1)] 1)) t := fun t k => castTop (ef_37 m a1) k
  obtain ⟨Eob1, F0ob1, F1ob1⟩ := id PS
  have hmd : own_md (hd + (n - 1)) n < n := by unfold own_md; split <;> omega
  obtain ⟨T2, X2, e2, st2⟩ := getF X0 hx hZ hown (host := "") (Or.inl (ow hw 212 rfl)) Via.refl e0 F0ob1 (g := (mkF m 1 #[.val (.ref a1)] [(.ref a1)])) rfl rfl (hb hby d37_1)
  obtain ⟨T3, X3, e3, st3⟩ := getF X2 hx hZ hown (host := "") (Or.inl (ow hw 212 rfl)) Via.refl e2 F0ob1 (g := (mkF m 6 #[.val (.ref a1)] [(.ref a1), (.ref a1), (.ref arr)])) rfl rfl (hb hby d37_6)
  obtain ⟨clq4, Arq4, Sq4, Hq4⟩ := id FAa
  obtain ⟨cq5, q5, q5'⟩ := Eob1.cell
  obtain ⟨_, _, ⟨T5, L5, k5, n5⟩, -, X5, ⟨Lc5, hQ5, l5, y5, z5⟩, st5⟩ := X3.privateBack hx (y := nm_36) hown (mvT hZ (ow hw 226 rfl)) (mvT hZ (ow hw 227 rfl)) (own_selP (mvT (args := #[]) hZ (ow hw 200 rfl)) (mvP hZ (ow hw 228 rfl) (args := #[])) (mvT hZ (ow hw 227 rfl)) (by decide)) (Cond.privateMethod_at (mvP hZ (ow hw 228 rfl) (args := #[]))) (mvT hZ (ow hw 229 rfl)) (by decide) (backOf (W := 1) (rm36 l Z a0 hw [] a1 arr n f hd (Int32.ofNat (n - 1)) (hd + (n - 1)) h0 n0 Z0 hn (own_add (by omega)) (by omega) F0ob1 F1ob1 FAa) hZ (ow hw 229 rfl) (ow hw 201 rfl) (by decide) (by decide)) (g := (mkF m 12 #[.val (.ref a1)] [(.int (Int32.ofNat (n - 1))), (.ref a1), (.ref arr)])) rfl (by rw [hml]; rfl) (Steps.refl _) (a := a1) (by rw [e3]; exact q5) q5' (argsL := [(.int (Int32.ofNat (n - 1)))]) (rest := [(.ref arr)]) (lenOf pd_24 rfl) rfl (by show 2 * 0 + _ ≤ _; exact Nat.le_of_eq rfl) (hb hby d37_12) (fun _ _ => ⟨rfl, e3, (by decide : 0 + 0 ≤ _), (by decide : 0 + 0 ≤ _)⟩)
  dsimp only [Pt.U, Pt.locs, Pt.cells, Pt.slots] at X5 l5 y5 z5 st5 hQ5
  subst l5 y5 z5
  obtain ⟨rfl, N5q, e5⟩ := hQ5
  have N5 := Fr.app N0 N5q
  obtain ⟨clq6, Arq6, Sq6, Hq6⟩ := id FAa
  have hin7 : ¬ ((Int32.ofNat (own_md (hd + (n - 1)) n)) < 0 ∨ clq6.slots.size ≤ ((Int32.ofNat (own_md (hd + (n - 1)) n))).toNatClampNeg) := fun z => z.elim (own_nn (by omega)) (fun z => by rw [Sq6, own_cl (by omega)] at z; have := hmd; omega)
  have hat7 : clq6.slots[((Int32.ofNat (own_md (hd + (n - 1)) n))).toNatClampNeg]? = some (.long (f (own_md (hd + (n - 1)) n))) := by rw [own_cl (by omega)]; exact Hq6 _ hmd
  obtain ⟨fsq, hr, hrun, hended, hW, hsame⟩ := X5.leave (v := some (.long (f (own_md (hd + (n - 1)) n)))) (fun h => by rw [Bd.returns] at h; cases h)
  refine ⟨_, _, pre0 _ ?_, hrun, hended, _, _, rfl, ?_, ⟨_, rfl⟩, hW, hsame.mono (by decide) (by decide)⟩
  · show Steps p.tables e below (s₁.setTop (mkF m 0 #[.val (.ref a1)] [])) _
    refine XS.aloadN X0.here hx rfl (hb hby d37_0) rfl rfl ?_
    refine st2 _ ?_
    refine XS.aloadN X2.here hx rfl (hb hby d37_4) rfl rfl ?_
    show Steps p.tables e below (T2.setTop (mkF m 5 #[.val (.ref a1)] [(.ref a1), (.ref arr)])) _
    refine XS.aloadN X2.here hx rfl (hb hby d37_5) rfl rfl ?_
    refine st3 _ ?_
    show Steps p.tables e below (T3.setTop (mkF m 9 #[.val (.ref a1)] [(.ref arr), (.ref a1), (.ref arr)])) _
    refine X3.arraylength hx (by rw [e3]; exact Arq4.1) (State.isArrayOf_alike hZ.alike Arq4.2.1) (g := (mkF m 9 #[.val (.ref a1)] [(.ref arr), (.ref a1), (.ref arr)])) rfl rfl (hb hby d37_9) _ ?_
    rw [Sq4]
    show Steps p.tables e below (T3.setTop (mkF m 10 #[.val (.ref a1)] [(.int (Int32.ofNat n)), (.ref a1), (.ref arr)])) _
    refine XS.iconst X3.here hx rfl (hb hby d37_10) ?_
    refine XS.isub X3.here hx rfl (hb hby d37_11) rfl ?_
    show Steps p.tables e below (T3.setTop (mkF m 12 #[.val (.ref a1)] [(.int ((Int32.ofNat n) - (1 : Int32))), (.ref a1), (.ref arr)])) _
    rw [show Int32.ofNat n - (1 : Int32) = Int32.ofNat (n - 1) from own_sub (j := 1) (by omega) (by omega)]
    refine st5.trans ?_
    refine X5.laload hx (j := (Int32.ofNat (own_md (hd + (n - 1)) n))) (v := (.long (f (own_md (hd + (n - 1)) n)))) (by rw [e5]; exact Arq6.1) (State.isArrayOf_alike hZ.alike Arq6.2.1) Arq6.2.2 hin7 hat7 (g := (mkF m 15 #[.val (.ref a1)] [(.int (Int32.ofNat (own_md (hd + (n - 1)) n))), (.ref arr)])) rfl rfl (hb hby d37_15) _ ?_
    show Steps p.tables e below (T5.setTop (mkF m 16 #[.val (.ref a1)] [(.long (f (own_md (hd + (n - 1)) n)))])) _
    exact retOut X5 hx Bd.returns rfl (Or.inr (Or.inl ⟨rfl, rfl, _, rfl⟩)) (hb hby d37_16) hr
  · show QP (some (.long (f (own_md (hd + (n - 1)) n)))) h0 n0 _ T5.heap _
    rw [e5]
    exact ⟨rfl, N5, rfl⟩
def QF (h0 : Heap) (n0 : Nat) (v : Option Value) (h : Heap) (L : List Loc) : Prop := v = some (.int (1 : Int32)) ∧ Fr n0 L
theorem own_mdlt {h n : Nat} (q : h < n) : own_md (h + 1) n < n := by unfold own_md; split <;> omega
theorem own_back {h n : Nat} (q : h < n) : own_md (own_md (h + 1) n + (n - 1)) n = h := by
  unfold own_md
  by_cases c1 : h + 1 < n
  · rw [if_pos c1, if_neg (by omega)]; omega
  · rw [if_neg c1, if_pos (by omega)]; omega
theorem own_read {h n : Nat} {f : Nat → Int64} {t : Int64} (q : h < n) : (fun j => if j = h then t else f j) (own_md (own_md (h + 1) n + (n - 1)) n) = t := by
  show (if own_md (own_md (h + 1) n + (n - 1)) n = h then t else f _) = t
  rw [own_back q]; exact if_pos rfl
theorem pd_1 : parseMethodDescriptor "(J)Ljava/time/Duration;" = some ⟨[.long], some (.object "java/time/Duration")⟩ := by decide +kernel
theorem pd_4 : parseMethodDescriptor "(ILjava/time/Duration;)V" = some ⟨[.int, (.object "java/time/Duration")], none⟩ := by decide +kernel
theorem pd_8 : parseMethodDescriptor "(Ljava/lang/Object;)Z" = some ⟨[(.object "java/lang/Object")], some .boolean⟩ := by decide +kernel
theorem pd_13 : parseMethodDescriptor "(Ljava/util/List;)V" = some ⟨[(.object "java/util/List")], none⟩ := by decide +kernel
theorem pd_21 : parseMethodDescriptor "(Lcom/example/steady_sluice/steadysluice/RuleSet;)V" = some ⟨[(.object "com/example/steady_sluice/steadysluice/RuleSet")], none⟩ := by decide +kernel
theorem pd_23 : parseMethodDescriptor "(Lcom/example/steady_sluice/steadysluice/RuleSet;J)V" = some ⟨[(.object "com/example/steady_sluice/steadysluice/RuleSet"), .long], none⟩ := by decide +kernel
theorem pn_com_example_steady_sluice_steadysluice_ScopeNewestAdmissionPinLaw : plainName "com/example/steady_sluice/steadysluice/ScopeNewestAdmissionPinLaw" = true := by first | (simp [plainName, overriddenIn]; done) | decide +kernel
theorem ef_0 (m : MethodId) (x0 : Int32) (x1 : Int64) (x2 : Int64) (x3 : Int64) (x4 : Int64) : entryFrame m #[(.int x0), (.long x1), (.long x2), (.long x3), (.long x4)] maxLocals = mkF m 0 #[.val (.int x0), .val (.long x1), .second, .val (.long x2), .second, .val (.long x3), .second, .val (.long x4), .second, .unset, .unset, .unset, .unset, .unset, .unset, .unset, .unset, .unset, .unset, .unset, .unset, .unset, .unset, .unset] [] := by first | (simp [entryFrame, mkF, argsToLocals, Value.category, maxLocals]; done) | rfl
set_option maxRecDepth 65536 in
set_option maxHeartbeats 40000000 in
theorem rm0_1 (l : Launch) (Z : State) (a0 : Array Value) (hw : ∀ d ∈ tables_1, d.before a0 Z = true) (ws : List Jvm.Cond) (p1 : Int32) (q1 : Int64) (q2 : Int64) (q3 : Int64) (q4 : Int64) (de : Addr) (kd : ClassId) (zd : Addr) (ld : Addr) (cn : Int32) (nn : Int32) (n : Nat) (h0 : Heap) (n0 : Nat) (Z0 : n0 ≤ h0.size) (O0 : Old Z n0 h0) (SDZ : Sta Z Z.heap "java/util/ArrayList" "DEFAULTCAPACITY_EMPTY_ELEMENTDATA" "[Ljava/lang/Object;" (.ref de)) (VDZ : Arv Z Z.heap de kd (.object "java/lang/Object") (0 : Int32) [] .null) (SZZ : Sta Z Z.heap "java/time/Duration" "ZERO" "Ljava/time/Duration;" (.ref zd)) (FZZ : Fld Z Z.heap zd "java/time/Duration" "seconds" "J" (.long (0 : Int64))) (FZN : Fld Z Z.heap zd "java/time/Duration" "nanos" "I" (.int (0 : Int32))) (SLZ : Sta Z Z.heap "com/example/steady_sluice/steadysluice/Rule" "LONGEST_PERIOD" "Ljava/time/Duration;" (.ref ld)) (FLZ : Fld Z Z.heap ld "java/time/Duration" "seconds" "J" (.long (9223372036 : Int64))) (hcnx : ((1 : Int32) + ((p1.toUInt32 >>> ((2 : Int32) &&& 31).toUInt32).toInt32 &&& (31 : Int32))) = cn) (hnnx : ((1 : Int32) + (p1 &&& (3 : Int32))) = nn) (hcn : ¬ (cn < (1 : Int32))) (hc1 : (0 : Int32) < cn) (hc2 : cn < (2147483647 : Int32)) (hn1 : 0 < n) (hn : n ≤ 16) (hcap : Int32.ofNat n < cn → n = 16) (hmin : ∀ (hh : Heap) (nn0 : Nat), nn0 ≤ hh.size → MetFree l nm_30 (head1 (Jvm.Cond.code nm_30 jdk_29_method_69_code 2 (some .int) :: []) rr0) (fun aa zU => aa = #[(.int cn), (.int (16 : Int32))] ∧ Z.Warmed39 zU.vm ∧ zU.heap = hh) (fun _ _ _ _ _ => True) (fun _ zU zo zU' => ∃ zv zL, zo = .returned zv ∧ QP (some (.int (Int32.ofNat n))) hh nn0 zv zU'.heap zL ∧ FrameEnd zU zo zU' zL rr0.cells rr0.slots)) (hc136 : nn < (2 : Int32)) (hc155 : nn < (3 : Int32)) (hc174 : nn < (4 : Int32)) :
    MetFree l x (head1 (Jvm.Cond.code x code maxLocals ret :: ws) room_1) (fun aa zU => aa = #[(.int p1), (.long q1), (.long q2), (.long q3), (.long q4)] ∧ Z.Warmed39 zU.vm ∧ zU.heap = h0) (fun _ _ _ _ _ => True) (fun _ zU zo zU' => ∃ zv zL, zo = .returned zv ∧ QF h0 n0 zv zU'.heap zL ∧ ReturnedEndW zU zo zU' zL room_1.cells room_1.slots) := by
  refine MetFree.of_bodySF (plainFor_of_name pn_com_example_steady_sluice_steadysluice_ScopeNewestAdmissionPinLaw) hisR ?_
  intro p e s m args below meth c s₁ Bd hml0 hP hK
  obtain ⟨rfl, hZ, hh⟩ := hP
  have hx := Bd.exec
  have hby := Bd.bytes
  have hml : c.maxLocals = 24 := hml0
  have hown : s.vm.findClass "com/example/steady_sluice/steadysluice/ScopeNewestAdmissionPinLaw" = some m.cls := findClass_of_methodNamed Bd.named
  have hnm := (name_of_methodNamed Bd.named Bd.method).1
  have X0 : Stand p l e room_1 s m #[(.int p1), (.long q1), (.long q2), (.long q3), (.long q4)] below meth c s₁ [] 0 0 := Stand.of_body Bd
  have e0 : s₁.heap = h0 := by rw [← hh, Bd.state]; rfl
  have N0 := Fr.nil n0
  have pre0 : ∀ t, Steps p.tables e below (s₁.setTop (mkF m 0 #[.val (.int p1), .val (.long q1), .second, .val (.long q2), .second, .val (.long q3), .second, .val (.long q4), .second, .unset, .unset, .unset, .unset, .unset, .unset, .unset, .unset, .unset, .unset, .unset, .unset, .unset, .unset, .unset] [])) t → Steps p.tables e below (s₁.setTop (entryFrame m #[(.int p1), (.long q1), (.long q2), (.long q3), (.long q4)] maxLocals)) t := fun t k => castTop (ef_0 m p1 q1 q2 q3 q4) k
  obtain ⟨t1, h_t1⟩ : ∃ z, (((q1 &&& (9223372036854775807 : Int64)).toUInt64 >>> ((3 : Int32) &&& 0x3f).toInt64.toUInt64).toInt64) = z := ⟨_, rfl⟩
  obtain ⟨t2, h_t2⟩ : ∃ z, ((t1 + (((q2 &&& (9223372036854775807 : Int64)).toUInt64 >>> ((3 : Int32) &&& 0x3f).toInt64.toUInt64).toInt64)) + (1 : Int64)) = z := ⟨_, rfl⟩
  obtain ⟨t3, h_t3⟩ : ∃ z, ((t2 + (((q3 &&& (9223372036854775807 : Int64)).toUInt64 >>> ((3 : Int32) &&& 0x3f).toInt64.toUInt64).toInt64)) + (1 : Int64)) = z := ⟨_, rfl⟩
  obtain ⟨t4, h_t4⟩ : ∃ z, ((t3 + (((q4 &&& (9223372036854775807 : Int64)).toUInt64 >>> ((3 : Int32) &&& 0x3f).toInt64.toUInt64).toInt64)) + (1 : Int64)) = z := ⟨_, rfl⟩
  obtain ⟨T1, h1, X1, e1, E1, A1, D1, -, st1⟩ := newO X0 hx hZ hown (ow hw 1 rfl) (ow hw 2 rfl) (ow hw 3 rfl) e0 (g := (mkF m 70 #[.val (.int p1), .val (.long q1), .second, .val (.long q2), .second, .val (.long q3), .second, .val (.long q4), .second, .val (.int nn), .val (.int cn), .val (.long t1), .second, .val (.long t2), .second, .val (.long t3), .second, .val (.long t4), .second, .unset, .unset, .unset, .unset, .unset] [])) rfl (hb hby at_70) (by decide) (by decide)
  obtain ⟨b1, g_b1⟩ : ∃ z, z = h0.size := ⟨_, rfl⟩
  rw [← g_b1] at A1 D1 st1
  have g0_b1 : n0 ≤ b1 := Nat.le_trans Z0 (Nat.le_of_eq g_b1.symm)
  have sz_b1 : h0.size ≤ b1 := Nat.le_trans (Nat.le_refl _) (Nat.le_of_eq g_b1.symm)
  have F_modCount_b1 : Fld Z h1 b1 "java/util/AbstractList" "modCount" "I" (.int (0 : Int32)) := D1 (Or.inl (ow hw 23 rfl)) (ty := .int) (by decide)
  have F_elementData_b1 : Fld Z h1 b1 "java/util/ArrayList" "elementData" "[Ljava/lang/Object;" .null := D1 (Or.inl (ow hw 26 rfl)) (ty := (.array (.object "java/lang/Object"))) (by decide)
  have F_size_b1 : Fld Z h1 b1 "java/util/ArrayList" "size" "I" (.int (0 : Int32)) := D1 (Or.inl (ow hw 94 rfl)) (ty := .int) (by decide)
  have c2 := O0.ext E1
  obtain ⟨_, _, ⟨T3, L3, k3, n3⟩, -, X3, ⟨Lc3, hQ3, l3, y3, z3⟩, st3⟩ := X1.specialBack hx (y := nm_1) rfl hown (mvT hZ (ow hw 4 rfl)) (mvT hZ (ow hw 5 rfl)) (mvT hZ (ow hw 6 rfl)) (by decide) (backOf (W := 1) (rm1 l Z a0 hw [] b1 de h1 n0 (Nat.le_trans Z0 E1.1) g0_b1 ⟨A1, F_modCount_b1, F_elementData_b1, F_size_b1⟩ (SDZ.ext c2.2)) hZ (ow hw 6 rfl) (ow hw 3 rfl) (by decide) (by decide)) (g := (mkF m 74 #[.val (.int p1), .val (.long q1), .second, .val (.long q2), .second, .val (.long q3), .second, .val (.long q4), .second, .val (.int nn), .val (.int cn), .val (.long t1), .second, .val (.long t2), .second, .val (.long t3), .second, .val (.long t4), .second, .unset, .unset, .unset, .unset, .unset] [(.ref b1), (.ref b1)])) rfl (by rw [hml]; rfl) (Steps.refl _) (a := b1) (argsL := []) (rest := [(.ref b1)]) (lenOf pd_0 rfl) rfl (by show 2 * 0 + _ ≤ _; exact Nat.le_of_eq rfl) (hb hby at_74) (fun _ _ => ⟨rfl, e1, (by decide : 1 + 0 ≤ _), (by decide : 3 + 0 ≤ _)⟩)
  dsimp only [Pt.U, Pt.locs, Pt.cells, Pt.slots] at X3 l3 y3 z3 st3 hQ3
  subst l3 y3 z3
  obtain ⟨rfl, N3q, K3, P03⟩ := hQ3
  have N3 := Fr.app N0 N3q
  obtain ⟨Eob4, F0ob4, F1ob4, F2ob4⟩ := id P03
  obtain ⟨T5, h5, X5, e5, E5, A5, D5, -, st5⟩ := newO X3 hx hZ hown (ow hw 27 rfl) (ow hw 28 rfl) (ow hw 29 rfl) rfl (g := (mkF m 81 #[.val (.int p1), .val (.long q1), .second, .val (.long q2), .second, .val (.long q3), .second, .val (.long q4), .second, .val (.int nn), .val (.int cn), .val (.long t1), .second, .val (.long t2), .second, .val (.long t3), .second, .val (.long t4), .second, .val (.ref b1), .unset, .unset, .unset, .unset] [(.ref b1)])) rfl (hb hby at_81) (by decide) (by decide)
  obtain ⟨b5, g_b5⟩ : ∃ z, z = T3.heap.size := ⟨_, rfl⟩
  rw [← g_b5] at A5 D5 st5
  have g0_b5 : n0 ≤ b5 := Nat.le_trans (Nat.le_trans (Nat.le_trans Z0 E1.1) K3.1) (Nat.le_of_eq g_b5.symm)
  have sz_b5 : h0.size ≤ b5 := Nat.le_trans (Nat.le_trans (Nat.le_trans (Nat.le_refl _) E1.1) K3.1) (Nat.le_of_eq g_b5.symm)
  have ne_b1_b5 : b1 ≠ b5 := Nat.ne_of_lt (Nat.lt_of_lt_of_le Eob4.lt (Nat.le_of_eq g_b5.symm))
  have F_count_b5 : Fld Z h5 b5 "com/example/steady_sluice/steadysluice/Rule" "count" "I" (.int (0 : Int32)) := D5 (Or.inr (ow hw 83 rfl)) (ty := .int) (by decide)
  have F_period_b5 : Fld Z h5 b5 "com/example/steady_sluice/steadysluice/Rule" "period" "Ljava/time/Duration;" .null := D5 (Or.inr (ow hw 85 rfl)) (ty := (.object "java/time/Duration")) (by decide)
  obtain ⟨_, _, ⟨T6, L6, k6, n6⟩, -, X6, ⟨Lc6, hQ6, l6, y6, z6⟩, st6⟩ := Jvm.LawKit.callS X5 hx (y := nm_5) hown (mvT hZ (ow hw 30 rfl)) (mvT hZ (ow hw 31 rfl)) (mvT hZ (ow hw 32 rfl)) (mvT hZ (ow hw 33 rfl)) (by decide) (backOf (W := 4) (rm5 l Z a0 hw [] h5 n0 (Nat.le_trans (Nat.le_trans (Nat.le_trans Z0 E1.1) K3.1) E5.1)) hZ (ow hw 33 rfl) (ow hw 32 rfl) (by decide) (by decide)) (g := (mkF m 88 #[.val (.int p1), .val (.long q1), .second, .val (.long q2), .second, .val (.long q3), .second, .val (.long q4), .second, .val (.int nn), .val (.int cn), .val (.long t1), .second, .val (.long t2), .second, .val (.long t3), .second, .val (.long t4), .second, .val (.ref b1), .unset, .unset, .unset, .unset] [(.long (1 : Int64)), (.int cn), (.ref b5), (.ref b5), (.ref b1)])) rfl (by rw [hml]; rfl) (argsL := [(.long (1 : Int64))]) (rest := [(.int cn), (.ref b5), (.ref b5), (.ref b1)]) (lenOf pd_1 rfl) rfl (by show 2 * 0 + _ ≤ _; exact Nat.le_of_eq rfl) (hb hby at_88) (fun _ _ => ⟨rfl, e5, (by decide : 2 + 1 ≤ _), (by decide : 5 + 2 ≤ _)⟩)
  dsimp only [Pt.U, Pt.locs, Pt.cells, Pt.slots] at X6 l6 y6 z6 st6 hQ6
  subst l6 y6 z6
  obtain ⟨bb6, rfl, N6q, K6, g0_bb6, szq6, P06⟩ := hQ6
  have N6 := Fr.app N3 N6q
  have c7 := Eob4.ext E5
  have ne_b1_bb6 : b1 ≠ bb6 := Nat.ne_of_lt (Nat.lt_of_lt_of_le c7.lt szq6)
  have ne_b5_bb6 : b5 ≠ bb6 := Nat.ne_of_lt (Nat.lt_of_lt_of_le A5.lt szq6)
  have sz_bb6 : h0.size ≤ bb6 := Nat.le_trans (Nat.le_trans (Nat.le_trans (Nat.le_trans (Nat.le_refl _) E1.1) K3.1) E5.1) szq6
  obtain ⟨Eob8, F0ob8, F1ob8⟩ := id P06
  have c9 := c2.keep K3 (allS g0_b1 all0)
  have c10 := c9.ext E5
  have c11 := c10.keep K6 all0
  have c12 := A5.keep K6
  have c13 := F_count_b5.keep K6 nin0
  have c14 := F_period_b5.keep K6 nin0
  obtain ⟨_, _, ⟨T15, L15, k15, n15⟩, -, X15, hS, hsz, ⟨Lc15, hQ15, l15, y15, z15⟩, st15⟩ := X6.specialBackS hx (y := nm_8) rfl hown (mvT hZ (ow hw 49 rfl)) (mvT hZ (ow hw 50 rfl)) (mvT hZ (ow hw 51 rfl)) (by decide) (backOfS (W := 2) (rm8 l Z a0 hw [] b5 cn bb6 zd ld T6.heap n0 (Nat.le_trans (Nat.le_trans (Nat.le_trans (Nat.le_trans Z0 E1.1) K3.1) E5.1) K6.1) g0_b5 ⟨c12, c13, c14⟩ ⟨Eob8, F0ob8, F1ob8⟩ hcn (SZZ.ext c11.2) (FZZ.ext c11.2) (FZN.ext c11.2) (SLZ.ext c11.2) (FLZ.ext c11.2)) hZ (ow hw 51 rfl) (ow hw 29 rfl) (by decide) (by decide)) (g := (mkF m 91 #[.val (.int p1), .val (.long q1), .second, .val (.long q2), .second, .val (.long q3), .second, .val (.long q4), .second, .val (.int nn), .val (.int cn), .val (.long t1), .second, .val (.long t2), .second, .val (.long t3), .second, .val (.long t4), .second, .val (.ref b1), .unset, .unset, .unset, .unset] [(.ref bb6), (.int cn), (.ref b5), (.ref b5), (.ref b1)])) rfl (by rw [hml]; rfl) (Steps.refl _) (a := b5) (argsL := [(.int cn), (.ref bb6)]) (rest := [(.ref b5), (.ref b1)]) (lenOf pd_4 rfl) rfl (by show 2 * 0 + _ ≤ _; exact Nat.le_of_eq rfl) (hb hby at_91) (fun _ _ => ⟨rfl, rfl, (by decide : 3 + 2 ≤ _), (by decide : 7 + 28 ≤ _)⟩)
  dsimp only [Pt.U, Pt.locs, Pt.cells, Pt.slots] at X15 l15 y15 z15 st15 hQ15 hS hsz
  subst l15 y15 z15
  obtain ⟨rfl, N15q, K15, P015⟩ := hQ15
  have N15 := Fr.app N6 N15q
  have hZ1 : Z.Warmed39 (s.setVm T15.vm).vm := State.Warmed39.trans hZ hS.1
  have hown1 : (s.setVm T15.vm).vm.findClass "com/example/steady_sluice/steadysluice/ScopeNewestAdmissionPinLaw" = some m.cls := (hS.1.alike.findClass _ _).trans hown
  obtain ⟨Eob16, F0ob16, F1ob16⟩ := id P015
  have c17 := c11.keep K15 (allS g0_b5 all0)
  have c18 := c7.keep K6
  have c19 := c18.keep K15
  have c20 := F0ob4.ext E5
  have c21 := c20.keep K6 nin0
  have c22 := c21.keep K15 (ninS ne_b1_b5 nin0)
  have c23 := F1ob4.ext E5
  have c24 := c23.keep K6 nin0
  have c25 := c24.keep K15 (ninS ne_b1_b5 nin0)
  have c26 := F2ob4.ext E5
  have c27 := c26.keep K6 nin0
  have c28 := c27.keep K15 (ninS ne_b1_b5 nin0)
  obtain ⟨cq29, kq29, q29a, q29b, q29c⟩ := isOf hZ1 rfl c19
  obtain ⟨_, _, ⟨T29, L29, k29, n29⟩, -, X29, ⟨Lc29, hQ29, l29, y29, z29⟩, st29⟩ := X15.virtualBack hx (y := nm_13) (z := nm_13) hown1 (mvT hZ1 (ow hw 86 rfl)) (mvT hZ1 (ow hw 87 rfl)) (notFace_of_selects (args := #[]) (mvT hZ1 (ow hw 89 rfl))) (mvT hZ1 (ow hw 89 rfl)) (mvT hZ1 (ow hw 88 rfl)) (by decide) (backOf (W := 0) (rm13 l Z a0 hw [] b1 b5 de kd T15.heap n0 (Nat.le_trans (Nat.le_trans (Nat.le_trans (Nat.le_trans (Nat.le_trans Z0 E1.1) K3.1) E5.1) K6.1) K15.1) g0_b1 ⟨c19, c22, c25, c28⟩ (VDZ.ext c17.2) (SDZ.ext c17.2) Eob16) hZ1 (ow hw 90 rfl) (ow hw 3 rfl) (by decide) (by decide)) q29a q29c (g := (mkF m 94 #[.val (.int p1), .val (.long q1), .second, .val (.long q2), .second, .val (.long q3), .second, .val (.long q4), .second, .val (.int nn), .val (.int cn), .val (.long t1), .second, .val (.long t2), .second, .val (.long t3), .second, .val (.long t4), .second, .val (.ref b1), .unset, .unset, .unset, .unset] [(.ref b5), (.ref b1)])) rfl (by rw [hml]; rfl) (Steps.refl _) (argsL := [(.ref b5)]) (rest := []) (lenOf pd_8 rfl) rfl (by show 2 * 0 + _ ≤ _; exact Nat.le_of_eq rfl) (hb hby at_94) (fun _ _ => ⟨rfl, rfl, (by decide : 5 + 1 ≤ _), (by decide : 35 + 10 ≤ _)⟩)
  dsimp only [Pt.U, Pt.locs, Pt.cells, Pt.slots] at X29 l29 y29 z29 st29 hQ29
  subst l29 y29 z29
  obtain ⟨rfl, N29q, K29, bb29, kk29, g0_bb29, szq29, P029, VV29⟩ := hQ29
  have N29 := Fr.app N15 N29q
  have ne_b1_bb29 : b1 ≠ bb29 := Nat.ne_of_lt (Nat.lt_of_lt_of_le c19.lt szq29)
  have ne_b5_bb29 : b5 ≠ bb29 := Nat.ne_of_lt (Nat.lt_of_lt_of_le Eob16.lt szq29)
  have c30 := Eob8.keep K15
  have ne_bb6_bb29 : bb6 ≠ bb29 := Nat.ne_of_lt (Nat.lt_of_lt_of_le c30.lt szq29)
  have sz_bb29 : h0.size ≤ bb29 := Nat.le_trans (Nat.le_trans (Nat.le_trans (Nat.le_trans (Nat.le_trans (Nat.le_trans (Nat.le_refl _) E1.1) K3.1) E5.1) K6.1) K15.1) szq29
  obtain ⟨Eob31, F0ob31, F1ob31, F2ob31⟩ := id P029
  obtain ⟨T32, h32, X32, e32, E32, A32, D32, -, st32⟩ := newO X29 hx hZ1 hown1 (ow hw 117 rfl) (ow hw 118 rfl) (ow hw 119 rfl) rfl (g := (mkF m 98 #[.val (.int p1), .val (.long q1), .second, .val (.long q2), .second, .val (.long q3), .second, .val (.long q4), .second, .val (.int nn), .val (.int cn), .val (.long t1), .second, .val (.long t2), .second, .val (.long t3), .second, .val (.long t4), .second, .val (.ref b1), .unset, .unset, .unset, .unset] [])) rfl (hb hby at_98) (by decide) (by decide)
  obtain ⟨b32, g_b32⟩ : ∃ z, z = T29.heap.size := ⟨_, rfl⟩
  rw [← g_b32] at A32 D32 st32
  have g0_b32 : n0 ≤ b32 := Nat.le_trans (Nat.le_trans (Nat.le_trans (Nat.le_trans (Nat.le_trans (Nat.le_trans (Nat.le_trans Z0 E1.1) K3.1) E5.1) K6.1) K15.1) K29.1) (Nat.le_of_eq g_b32.symm)
  have sz_b32 : h0.size ≤ b32 := Nat.le_trans (Nat.le_trans (Nat.le_trans (Nat.le_trans (Nat.le_trans (Nat.le_trans (Nat.le_trans (Nat.le_refl _) E1.1) K3.1) E5.1) K6.1) K15.1) K29.1) (Nat.le_of_eq g_b32.symm)
  have ne_b1_b32 : b1 ≠ b32 := Nat.ne_of_lt (Nat.lt_of_lt_of_le Eob31.lt (Nat.le_of_eq g_b32.symm))
  have c33 := Eob16.keep K29
  have ne_b5_b32 : b5 ≠ b32 := Nat.ne_of_lt (Nat.lt_of_lt_of_le c33.lt (Nat.le_of_eq g_b32.symm))
  have c34 := c30.keep K29
  have ne_bb6_b32 : bb6 ≠ b32 := Nat.ne_of_lt (Nat.lt_of_lt_of_le c34.lt (Nat.le_of_eq g_b32.symm))
  have ne_bb29_b32 : bb29 ≠ b32 := Nat.ne_of_lt (Nat.lt_of_lt_of_le VV29.lt (Nat.le_of_eq g_b32.symm))
  have F_counts_b32 : Fld Z h32 b32 "com/example/steady_sluice/steadysluice/RuleSet" "counts" "[I" .null := D32 (Or.inr (ow hw 135 rfl)) (ty := (.array .int)) (by decide)
  have F_periodNanos_b32 : Fld Z h32 b32 "com/example/steady_sluice/steadysluice/RuleSet" "periodNanos" "[J" .null := D32 (Or.inr (ow hw 138 rfl)) (ty := (.array .long)) (by decide)
  have F_largestCount_b32 : Fld Z h32 b32 "com/example/steady_sluice/steadysluice/RuleSet" "largestCount" "I" (.int (0 : Int32)) := D32 (Or.inr (ow hw 194 rfl)) (ty := .int) (by decide)
  have F_smallestCount_b32 : Fld Z h32 b32 "com/example/steady_sluice/steadysluice/RuleSet" "smallestCount" "I" (.int (0 : Int32)) := D32 (Or.inr (ow hw 196 rfl)) (ty := .int) (by decide)
  have F_longestPeriodNanos_b32 : Fld Z h32 b32 "com/example/steady_sluice/steadysluice/RuleSet" "longestPeriodNanos" "J" (.long (0 : Int64)) := D32 (Or.inr (ow hw 198 rfl)) (ty := .long) (by decide)
  have c35 := Eob31.ext E32
  have c36 := F0ob31.ext E32
  have c37 := F1ob31.ext E32
  have c38 := F2ob31.ext E32
  have c39 := VV29.ext E32
  have c40 := c33.ext E32
  have c41 := F0ob16.keep K29 (ninS (Ne.symm ne_b1_b5) nin0)
  have c42 := c41.ext E32
  have c43 := F1ob16.keep K29 (ninS (Ne.symm ne_b1_b5) nin0)
  have c44 := c43.ext E32
  have c45 := c34.ext E32
  have c46 := F0ob8.keep K15 (ninS (Ne.symm ne_b5_bb6) nin0)
  have c47 := c46.keep K29 (ninS (Ne.symm ne_b1_bb6) nin0)
  have c48 := c47.ext E32
  have c49 := F1ob8.keep K15 (ninS (Ne.symm ne_b5_bb6) nin0)
  have c50 := c49.keep K29 (ninS (Ne.symm ne_b1_bb6) nin0)
  have c51 := c50.ext E32
  obtain ⟨_, _, ⟨T52, L52, k52, n52⟩, -, X52, ⟨Lc52, hQ52, l52, y52, z52⟩, st52⟩ := X32.specialBack hx (y := nm_18) rfl hown1 (mvT hZ1 (ow hw 120 rfl)) (mvT hZ1 (ow hw 121 rfl)) (mvT hZ1 (ow hw 122 rfl)) (by decide) (backOf (W := 1) (rm18 l Z a0 hw [] b32 b1 bb29 kk29 b5 bb6 ((0 : Int32) + (1 : Int32)) cn h32 n0 (Nat.le_trans (Nat.le_trans (Nat.le_trans (Nat.le_trans (Nat.le_trans (Nat.le_trans (Nat.le_trans Z0 E1.1) K3.1) E5.1) K6.1) K15.1) K29.1) E32.1) g0_b32 ⟨A32, F_counts_b32, F_periodNanos_b32, F_largestCount_b32, F_smallestCount_b32, F_longestPeriodNanos_b32⟩ ⟨c35, c36, c37, c38⟩ c39 ⟨c40, c42, c44⟩ ⟨c45, c48, c51⟩ hc1 hc2) hZ1 (ow hw 122 rfl) (ow hw 119 rfl) (by decide) (by decide)) (g := (mkF m 104 #[.val (.int p1), .val (.long q1), .second, .val (.long q2), .second, .val (.long q3), .second, .val (.long q4), .second, .val (.int nn), .val (.int cn), .val (.long t1), .second, .val (.long t2), .second, .val (.long t3), .second, .val (.long t4), .second, .val (.ref b1), .unset, .unset, .unset, .unset] [(.ref b1), (.ref b32), (.ref b32)])) rfl (by rw [hml]; rfl) (Steps.refl _) (a := b32) (argsL := [(.ref b1)]) (rest := [(.ref b32)]) (lenOf pd_13 rfl) rfl (by show 2 * 0 + _ ≤ _; exact Nat.le_of_eq rfl) (hb hby at_104) (fun _ _ => ⟨rfl, e32, (by decide : 7 + 2 ≤ _), (by decide : 50 + 2 ≤ _)⟩)
  dsimp only [Pt.U, Pt.locs, Pt.cells, Pt.slots] at X52 l52 y52 z52 st52 hQ52
  subst l52 y52 z52
  obtain ⟨rfl, N52q, K52, c152, c252, P052⟩ := hQ52
  have N52 := Fr.app N29 N52q
  obtain ⟨Eob53, F0ob53, F1ob53, F2ob53, F3ob53, F4ob53⟩ := id P052
  obtain ⟨T54, h54, X54, e54, E54, A54, D54, -, st54⟩ := newO X52 hx hZ1 hown1 (ow hw 199 rfl) (ow hw 200 rfl) (ow hw 201 rfl) rfl (g := (mkF m 109 #[.val (.int p1), .val (.long q1), .second, .val (.long q2), .second, .val (.long q3), .second, .val (.long q4), .second, .val (.int nn), .val (.int cn), .val (.long t1), .second, .val (.long t2), .second, .val (.long t3), .second, .val (.long t4), .second, .val (.ref b1), .val (.ref b32), .unset, .unset, .unset] [])) rfl (hb hby at_109) (by decide) (by decide)
  obtain ⟨b54, g_b54⟩ : ∃ z, z = T52.heap.size := ⟨_, rfl⟩
  rw [← g_b54] at A54 D54 st54
  have g0_b54 : n0 ≤ b54 := Nat.le_trans (Nat.le_trans (Nat.le_trans (Nat.le_trans (Nat.le_trans (Nat.le_trans (Nat.le_trans (Nat.le_trans (Nat.le_trans Z0 E1.1) K3.1) E5.1) K6.1) K15.1) K29.1) E32.1) K52.1) (Nat.le_of_eq g_b54.symm)
  have sz_b54 : h0.size ≤ b54 := Nat.le_trans (Nat.le_trans (Nat.le_trans (Nat.le_trans (Nat.le_trans (Nat.le_trans (Nat.le_trans (Nat.le_trans (Nat.le_trans (Nat.le_refl _) E1.1) K3.1) E5.1) K6.1) K15.1) K29.1) E32.1) K52.1) (Nat.le_of_eq g_b54.symm)
  have c55 := c35.keep K52
  have ne_b1_b54 : b1 ≠ b54 := Nat.ne_of_lt (Nat.lt_of_lt_of_le c55.lt (Nat.le_of_eq g_b54.symm))
  have c56 := c40.keep K52
  have ne_b5_b54 : b5 ≠ b54 := Nat.ne_of_lt (Nat.lt_of_lt_of_le c56.lt (Nat.le_of_eq g_b54.symm))
  have c57 := c45.keep K52
  have ne_bb6_b54 : bb6 ≠ b54 := Nat.ne_of_lt (Nat.lt_of_lt_of_le c57.lt (Nat.le_of_eq g_b54.symm))
  have c58 := c39.keep K52 (ninS ne_bb29_b32 nin0)
  have ne_bb29_b54 : bb29 ≠ b54 := Nat.ne_of_lt (Nat.lt_of_lt_of_le c58.lt (Nat.le_of_eq g_b54.symm))
  have ne_b32_b54 : b32 ≠ b54 := Nat.ne_of_lt (Nat.lt_of_lt_of_le Eob53.lt (Nat.le_of_eq g_b54.symm))
  have F_times_b54 : Fld Z h54 b54 "com/example/steady_sluice/steadysluice/Scope" "times" "[J" .null := D54 (Or.inl (ow hw 213 rfl)) (ty := (.array .long)) (by decide)
  have F_head_b54 : Fld Z h54 b54 "com/example/steady_sluice/steadysluice/Scope" "head" "I" (.int (0 : Int32)) := D54 (Or.inl (ow hw 225 rfl)) (ty := .int) (by decide)
  have c59 := Eob53.ext E54
  have c60 := F2ob53.ext E54
  obtain ⟨_, _, ⟨T61, L61, k61, n61⟩, -, X61, ⟨Lc61, hQ61, l61, y61, z61⟩, st61⟩ := X54.specialBack hx (y := nm_32) rfl hown1 (mvT hZ1 (ow hw 202 rfl)) (mvT hZ1 (ow hw 203 rfl)) (mvT hZ1 (ow hw 204 rfl)) (by decide) (backOf (W := 1) (rm32 l Z a0 hw [] b54 b32 cn n h54 n0 (Nat.le_trans (Nat.le_trans (Nat.le_trans (Nat.le_trans (Nat.le_trans (Nat.le_trans (Nat.le_trans (Nat.le_trans (Nat.le_trans Z0 E1.1) K3.1) E5.1) K6.1) K15.1) K29.1) E32.1) K52.1) E54.1) g0_b54 ⟨A54, F_times_b54, F_head_b54⟩ hn (hmin h54 n0 (Nat.le_trans (Nat.le_trans (Nat.le_trans (Nat.le_trans (Nat.le_trans (Nat.le_trans (Nat.le_trans (Nat.le_trans (Nat.le_trans Z0 E1.1) K3.1) E5.1) K6.1) K15.1) K29.1) E32.1) K52.1) E54.1)) c59 c60) hZ1 (ow hw 204 rfl) (ow hw 201 rfl) (by decide) (by decide)) (g := (mkF m 115 #[.val (.int p1), .val (.long q1), .second, .val (.long q2), .second, .val (.long q3), .second, .val (.long q4), .second, .val (.int nn), .val (.int cn), .val (.long t1), .second, .val (.long t2), .second, .val (.long t3), .second, .val (.long t4), .second, .val (.ref b1), .val (.ref b32), .unset, .unset, .unset] [(.ref b32), (.ref b54), (.ref b54)])) rfl (by rw [hml]; rfl) (Steps.refl _) (a := b54) (argsL := [(.ref b32)]) (rest := [(.ref b54)]) (lenOf pd_21 rfl) rfl (by show 2 * 0 + _ ≤ _; exact Nat.le_of_eq rfl) (hb hby at_115) (fun _ _ => ⟨rfl, e54, (by decide : 10 + 1 ≤ _), (by decide : 54 + 16 ≤ _)⟩)
  dsimp only [Pt.U, Pt.locs, Pt.cells, Pt.slots] at X61 l61 y61 z61 st61 hQ61
  subst l61 y61 z61
  obtain ⟨rfl, N61q, K61, ar61, g0_ar61, szq61, P061, FF61⟩ := hQ61
  have N61 := Fr.app N52 N61q
  have c62 := c55.ext E54
  have ne_b1_ar61 : b1 ≠ ar61 := Nat.ne_of_lt (Nat.lt_of_lt_of_le c62.lt szq61)
  have c63 := c56.ext E54
  have ne_b5_ar61 : b5 ≠ ar61 := Nat.ne_of_lt (Nat.lt_of_lt_of_le c63.lt szq61)
  have c64 := c57.ext E54
  have ne_bb6_ar61 : bb6 ≠ ar61 := Nat.ne_of_lt (Nat.lt_of_lt_of_le c64.lt szq61)
  have c65 := c58.ext E54
  have ne_bb29_ar61 : bb29 ≠ ar61 := Nat.ne_of_lt (Nat.lt_of_lt_of_le c65.lt szq61)
  have ne_b32_ar61 : b32 ≠ ar61 := Nat.ne_of_lt (Nat.lt_of_lt_of_le c59.lt szq61)
  have ne_b54_ar61 : b54 ≠ ar61 := Nat.ne_of_lt (Nat.lt_of_lt_of_le A54.lt szq61)
  have sz_ar61 : h0.size ≤ ar61 := Nat.le_trans (Nat.le_trans (Nat.le_trans (Nat.le_trans (Nat.le_trans (Nat.le_trans (Nat.le_trans (Nat.le_trans (Nat.le_trans (Nat.le_trans (Nat.le_refl _) E1.1) K3.1) E5.1) K6.1) K15.1) K29.1) E32.1) K52.1) E54.1) szq61
  obtain ⟨Eob66, F0ob66, F1ob66⟩ := id P061
  have c67 := c59.keep K61
  have c68 := c60.keep K61 (ninS ne_b32_b54 nin0)
  have c69 := F3ob53.ext E54
  have c70 := c69.keep K61 (ninS ne_b32_b54 nin0)
  have c71 := F4ob53.ext E54
  have c72 := c71.keep K61 (ninS ne_b32_b54 nin0)
  obtain ⟨cq73, kq73, q73a, q73b, q73c⟩ := isOf hZ1 rfl Eob66
  obtain ⟨_, _, ⟨T73, L73, k73, n73⟩, -, X73, ⟨Lc73, hQ73, l73, y73, z73⟩, st73⟩ := X61.virtualBack hx (y := nm_35) (z := nm_35) hown1 (mvT hZ1 (ow hw 219 rfl)) (mvT hZ1 (ow hw 220 rfl)) (notFace_of_selects (args := #[]) (mvT hZ1 (ow hw 222 rfl))) (mvT hZ1 (ow hw 222 rfl)) (mvT hZ1 (ow hw 221 rfl)) (by decide) (backOf (W := 0) (rm35 l Z a0 hw [] b54 b32 ar61 n (fun _ => (-9223372036854775808 : Int64)) 0 cn t1 T61.heap n0 (Nat.le_trans (Nat.le_trans (Nat.le_trans (Nat.le_trans (Nat.le_trans (Nat.le_trans (Nat.le_trans (Nat.le_trans (Nat.le_trans (Nat.le_trans Z0 E1.1) K3.1) E5.1) K6.1) K15.1) K29.1) E32.1) K52.1) E54.1) K61.1) g0_b54 g0_ar61 hn hn1 ⟨Eob66, F0ob66, F1ob66⟩ FF61 c67 c68 c70 c72 (fun q => by have e := hcap q; subst e; rfl)) hZ1 (ow hw 223 rfl) (ow hw 201 rfl) (by decide) (by decide)) q73a q73c (g := (mkF m 126 #[.val (.int p1), .val (.long q1), .second, .val (.long q2), .second, .val (.long q3), .second, .val (.long q4), .second, .val (.int nn), .val (.int cn), .val (.long t1), .second, .val (.long t2), .second, .val (.long t3), .second, .val (.long t4), .second, .val (.ref b1), .val (.ref b32), .val (.ref b54), .unset, .unset] [(.long t1), (.ref b32), (.ref b54)])) rfl (by rw [hml]; rfl) (Steps.refl _) (argsL := [(.ref b32), (.long t1)]) (rest := []) (lenOf pd_23 rfl) rfl (by show 2 * 0 + _ ≤ _; exact Nat.le_of_eq rfl) (hb hby at_126) (fun _ _ => ⟨rfl, rfl, (by decide : 11 + 0 ≤ _), (by decide : 70 + 0 ≤ _)⟩)
  dsimp only [Pt.U, Pt.locs, Pt.cells, Pt.slots] at X73 l73 y73 z73 st73 hQ73
  subst l73 y73 z73
  obtain ⟨rfl, N73q, K73, P073, FF73⟩ := hQ73
  have N73 := Fr.app N61 N73q
  obtain ⟨Eob74, F0ob74, F1ob74⟩ := id P073
  obtain ⟨cq75, kq75, q75a, q75b, q75c⟩ := isOf hZ1 rfl Eob74
  obtain ⟨_, _, ⟨T75, L75, k75, n75⟩, -, X75, ⟨Lc75, hQ75, l75, y75, z75⟩, st75⟩ := X73.virtualBack hx (y := nm_37) (z := nm_37) hown1 (mvT hZ1 (ow hw 230 rfl)) (mvT hZ1 (ow hw 231 rfl)) (notFace_of_selects (args := #[]) (mvT hZ1 (ow hw 233 rfl))) (mvT hZ1 (ow hw 233 rfl)) (mvT hZ1 (ow hw 232 rfl)) (by decide) (backOf (W := 0) (rm37 l Z a0 hw [] b54 ar61 n (fun j => if j = 0 then t1 else (fun _ => (-9223372036854775808 : Int64)) j) (own_md (0 + 1) n) T73.heap n0 (Nat.le_trans (Nat.le_trans (Nat.le_trans (Nat.le_trans (Nat.le_trans (Nat.le_trans (Nat.le_trans (Nat.le_trans (Nat.le_trans (Nat.le_trans (Nat.le_trans Z0 E1.1) K3.1) E5.1) K6.1) K15.1) K29.1) E32.1) K52.1) E54.1) K61.1) K73.1) hn (own_mdlt hn1) ⟨Eob74, F0ob74, F1ob74⟩ FF73) hZ1 (ow hw 234 rfl) (ow hw 201 rfl) (by decide) (by decide)) q75a q75c (g := (mkF m 192 #[.val (.int p1), .val (.long q1), .second, .val (.long q2), .second, .val (.long q3), .second, .val (.long q4), .second, .val (.int nn), .val (.int cn), .val (.long t1), .second, .val (.long t2), .second, .val (.long t3), .second, .val (.long t4), .second, .val (.ref b1), .val (.ref b32), .val (.ref b54), .val (.long t1), .second] [(.ref b54)])) rfl (by rw [hml]; rfl) (Steps.refl _) (argsL := []) (rest := []) (lenOf pd_18 rfl) rfl (by show 2 * 0 + _ ≤ _; exact Nat.le_of_eq rfl) (hb hby at_192) (fun _ _ => ⟨rfl, rfl, (by decide : 11 + 0 ≤ _), (by decide : 70 + 0 ≤ _)⟩)
  dsimp only [Pt.U, Pt.locs, Pt.cells, Pt.slots] at X75 l75 y75 z75 st75 hQ75
  subst l75 y75 z75
  obtain ⟨rfl, N75q, e75⟩ := hQ75
  have N75 := Fr.app N73 N75q
  obtain ⟨fsq, hr, hrun, hended, hRW⟩ := X75.leaveW hS (by rw [e75]; exact (Nat.le_trans (Nat.le_trans (Nat.le_trans (Nat.le_trans (Nat.le_trans (Nat.le_trans (Nat.le_refl _) K29.1) E32.1) K52.1) E54.1) K61.1) K73.1)) (v := some (.int (1 : Int32))) (fun h => by rw [Bd.returns] at h; cases h)
  refine ⟨_, _, pre0 _ ?_, hrun, hended, _, _, rfl, ?_, hRW.1, hRW.2.1, hRW.2.2.1, hRW.2.2.2.mono (by decide) (by decide)⟩
  · show Steps p.tables e below (s₁.setTop (mkF m 0 #[.val (.int p1), .val (.long q1), .second, .val (.long q2), .second, .val (.long q3), .second, .val (.long q4), .second, .unset, .unset, .unset, .unset, .unset, .unset, .unset, .unset, .unset, .unset, .unset, .unset, .unset, .unset, .unset] [])) _
    refine XS.iconst X0.here hx rfl (hb hby at_0) ?_
    refine XS.iloadN X0.here hx rfl (hb hby at_1) rfl ?_
    refine XS.iconst X0.here hx rfl (hb hby at_2) ?_
    show Steps p.tables e below (s₁.setTop (mkF m 3 #[.val (.int p1), .val (.long q1), .second, .val (.long q2), .second, .val (.long q3), .second, .val (.long q4), .second, .unset, .unset, .unset, .unset, .unset, .unset, .unset, .unset, .unset, .unset, .unset, .unset, .unset, .unset, .unset] [(.int (3 : Int32)), (.int p1), (.int (1 : Int32))])) _
    refine XS.iand X0.here hx rfl (hb hby at_3) rfl ?_
    refine XS.iadd X0.here hx rfl (hb hby at_4) rfl ?_
    show Steps p.tables e below (s₁.setTop (mkF m 5 #[.val (.int p1), .val (.long q1), .second, .val (.long q2), .second, .val (.long q3), .second, .val (.long q4), .second, .unset, .unset, .unset, .unset, .unset, .unset, .unset, .unset, .unset, .unset, .unset, .unset, .unset, .unset, .unset] [(.int ((1 : Int32) + (p1 &&& (3 : Int32))))])) _
    rw [hnnx]
    refine XS.istore X0.here hx rfl (hb hby at_5) rfl (l' := #[.val (.int p1), .val (.long q1), .second, .val (.long q2), .second, .val (.long q3), .second, .val (.long q4), .second, .val (.int nn), .unset, .unset, .unset, .unset, .unset, .unset, .unset, .unset, .unset, .unset, .unset, .unset, .unset, .unset]) rfl ?_
    show Steps p.tables e below (s₁.setTop (mkF m 7 #[.val (.int p1), .val (.long q1), .second, .val (.long q2), .second, .val (.long q3), .second, .val (.long q4), .second, .val (.int nn), .unset, .unset, .unset, .unset, .unset, .unset, .unset, .unset, .unset, .unset, .unset, .unset, .unset, .unset] [])) _
    refine XS.iconst X0.here hx rfl (hb hby at_7) ?_
    refine XS.iloadN X0.here hx rfl (hb hby at_8) rfl ?_
    refine XS.iconst X0.here hx rfl (hb hby at_9) ?_
    show Steps p.tables e below (s₁.setTop (mkF m 10 #[.val (.int p1), .val (.long q1), .second, .val (.long q2), .second, .val (.long q3), .second, .val (.long q4), .second, .val (.int nn), .unset, .unset, .unset, .unset, .unset, .unset, .unset, .unset, .unset, .unset, .unset, .unset, .unset, .unset] [(.int (2 : Int32)), (.int p1), (.int (1 : Int32))])) _
    refine XS.iushr X0.here hx rfl (hb hby at_10) rfl ?_
    refine XS.bipush X0.here hx rfl (hb hby at_11) ?_
    refine XS.iand X0.here hx rfl (hb hby at_13) rfl ?_
    show Steps p.tables e below (s₁.setTop (mkF m 14 #[.val (.int p1), .val (.long q1), .second, .val (.long q2), .second, .val (.long q3), .second, .val (.long q4), .second, .val (.int nn), .unset, .unset, .unset, .unset, .unset, .unset, .unset, .unset, .unset, .unset, .unset, .unset, .unset, .unset] [(.int (((p1.toUInt32 >>> ((2 : Int32) &&& 31).toUInt32).toInt32) &&& (31 : Int32))), (.int (1 : Int32))])) _
    refine XS.iadd X0.here hx rfl (hb hby at_14) rfl ?_
    show Steps p.tables e below (s₁.setTop (mkF m 15 #[.val (.int p1), .val (.long q1), .second, .val (.long q2), .second, .val (.long q3), .second, .val (.long q4), .second, .val (.int nn), .unset, .unset, .unset, .unset, .unset, .unset, .unset, .unset, .unset, .unset, .unset, .unset, .unset, .unset] [(.int ((1 : Int32) + (((p1.toUInt32 >>> ((2 : Int32) &&& 31).toUInt32).toInt32) &&& (31 : Int32))))])) _
    rw [hcnx]
    refine XS.istore X0.here hx rfl (hb hby at_15) rfl (l' := #[.val (.int p1), .val (.long q1), .second, .val (.long q2), .second, .val (.long q3), .second, .val (.long q4), .second, .val (.int nn), .val (.int cn), .unset, .unset, .unset, .unset, .unset, .unset, .unset, .unset, .unset, .unset, .unset, .unset, .unset]) rfl ?_
    refine XS.lloadN X0.here hx rfl (hb hby at_17) rfl ?_
    show Steps p.tables e below (s₁.setTop (mkF m 18 #[.val (.int p1), .val (.long q1), .second, .val (.long q2), .second, .val (.long q3), .second, .val (.long q4), .second, .val (.int nn), .val (.int cn), .unset, .unset, .unset, .unset, .unset, .unset, .unset, .unset, .unset, .unset, .unset, .unset, .unset] [(.long q1)])) _
    refine X0.ldc2Long hx hown (mvT hZ (ow hw 0 rfl)) (g := (mkF m 18 #[.val (.int p1), .val (.long q1), .second, .val (.long q2), .second, .val (.long q3), .second, .val (.long q4), .second, .val (.int nn), .val (.int cn), .unset, .unset, .unset, .unset, .unset, .unset, .unset, .unset, .unset, .unset, .unset, .unset, .unset] [(.long q1)])) rfl (hb hby at_18) _ ?_
    refine XS.land X0.here hx rfl (hb hby at_21) rfl ?_
    refine XS.iconst X0.here hx rfl (hb hby at_22) ?_
    show Steps p.tables e below (s₁.setTop (mkF m 23 #[.val (.int p1), .val (.long q1), .second, .val (.long q2), .second, .val (.long q3), .second, .val (.long q4), .second, .val (.int nn), .val (.int cn), .unset, .unset, .unset, .unset, .unset, .unset, .unset, .unset, .unset, .unset, .unset, .unset, .unset] [(.int (3 : Int32)), (.long (q1 &&& (9223372036854775807 : Int64)))])) _
    refine XS.lushr X0.here hx rfl (hb hby at_23) rfl ?_
    show Steps p.tables e below (s₁.setTop (mkF m 24 #[.val (.int p1), .val (.long q1), .second, .val (.long q2), .second, .val (.long q3), .second, .val (.long q4), .second, .val (.int nn), .val (.int cn), .unset, .unset, .unset, .unset, .unset, .unset, .unset, .unset, .unset, .unset, .unset, .unset, .unset] [(.long (((q1 &&& (9223372036854775807 : Int64)).toUInt64 >>> ((3 : Int32) &&& 0x3f).toInt64.toUInt64).toInt64))])) _
    rw [h_t1]
    refine XS.lstore X0.here hx rfl (hb hby at_24) rfl (l' := #[.val (.int p1), .val (.long q1), .second, .val (.long q2), .second, .val (.long q3), .second, .val (.long q4), .second, .val (.int nn), .val (.int cn), .val (.long t1), .second, .unset, .unset, .unset, .unset, .unset, .unset, .unset, .unset, .unset, .unset, .unset]) rfl ?_
    refine XS.lload X0.here hx rfl (hb hby at_26) rfl ?_
    show Steps p.tables e below (s₁.setTop (mkF m 28 #[.val (.int p1), .val (.long q1), .second, .val (.long q2), .second, .val (.long q3), .second, .val (.long q4), .second, .val (.int nn), .val (.int cn), .val (.long t1), .second, .unset, .unset, .unset, .unset, .unset, .unset, .unset, .unset, .unset, .unset, .unset] [(.long t1)])) _
    refine XS.lloadN X0.here hx rfl (hb hby at_28) rfl ?_
    refine X0.ldc2Long hx hown (mvT hZ (ow hw 0 rfl)) (g := (mkF m 29 #[.val (.int p1), .val (.long q1), .second, .val (.long q2), .second, .val (.long q3), .second, .val (.long q4), .second, .val (.int nn), .val (.int cn), .val (.long t1), .second, .unset, .unset, .unset, .unset, .unset, .unset, .unset, .unset, .unset, .unset, .unset] [(.long q2), (.long t1)])) rfl (hb hby at_29) _ ?_
    refine XS.land X0.here hx rfl (hb hby at_32) rfl ?_
    show Steps p.tables e below (s₁.setTop (mkF m 33 #[.val (.int p1), .val (.long q1), .second, .val (.long q2), .second, .val (.long q3), .second, .val (.long q4), .second, .val (.int nn), .val (.int cn), .val (.long t1), .second, .unset, .unset, .unset, .unset, .unset, .unset, .unset, .unset, .unset, .unset, .unset] [(.long (q2 &&& (9223372036854775807 : Int64))), (.long t1)])) _
    refine XS.iconst X0.here hx rfl (hb hby at_33) ?_
    refine XS.lushr X0.here hx rfl (hb hby at_34) rfl ?_
    refine XS.ladd X0.here hx rfl (hb hby at_35) rfl ?_
    show Steps p.tables e below (s₁.setTop (mkF m 36 #[.val (.int p1), .val (.long q1), .second, .val (.long q2), .second, .val (.long q3), .second, .val (.long q4), .second, .val (.int nn), .val (.int cn), .val (.long t1), .second, .unset, .unset, .unset, .unset, .unset, .unset, .unset, .unset, .unset, .unset, .unset] [(.long (t1 + (((q2 &&& (9223372036854775807 : Int64)).toUInt64 >>> ((3 : Int32) &&& 0x3f).toInt64.toUInt64).toInt64)))])) _
    refine XS.lconst X0.here hx rfl (hb hby at_36) ?_
    refine XS.ladd X0.here hx rfl (hb hby at_37) rfl ?_
    show Steps p.tables e below (s₁.setTop (mkF m 38 #[.val (.int p1), .val (.long q1), .second, .val (.long q2), .second, .val (.long q3), .second, .val (.long q4), .second, .val (.int nn), .val (.int cn), .val (.long t1), .second, .unset, .unset, .unset, .unset, .unset, .unset, .unset, .unset, .unset, .unset, .unset] [(.long ((t1 + (((q2 &&& (9223372036854775807 : Int64)).toUInt64 >>> ((3 : Int32) &&& 0x3f).toInt64.toUInt64).toInt64)) + (1 : Int64)))])) _
    rw [h_t2]
    refine XS.lstore X0.here hx rfl (hb hby at_38) rfl (l' := #[.val (.int p1), .val (.long q1), .second, .val (.long q2), .second, .val (.long q3), .second, .val (.long q4), .second, .val (.int nn), .val (.int cn), .val (.long t1), .second, .val (.long t2), .second, .unset, .unset, .unset, .unset, .unset, .unset, .unset, .unset, .unset]) rfl ?_
    show Steps p.tables e below (s₁.setTop (mkF m 40 #[.val (.int p1), .val (.long q1), .second, .val (.long q2), .second, .val (.long q3), .second, .val (.long q4), .second, .val (.int nn), .val (.int cn), .val (.long t1), .second, .val (.long t2), .second, .unset, .unset, .unset, .unset, .unset, .unset, .unset, .unset, .unset] [])) _
    refine XS.lload X0.here hx rfl (hb hby at_40) rfl ?_
    refine XS.lload X0.here hx rfl (hb hby at_42) rfl ?_
    refine X0.ldc2Long hx hown (mvT hZ (ow hw 0 rfl)) (g := (mkF m 44 #[.val (.int p1), .val (.long q1), .second, .val (.long q2), .second, .val (.long q3), .second, .val (.long q4), .second, .val (.int nn), .val (.int cn), .val (.long t1), .second, .val (.long t2), .second, .unset, .unset, .unset, .unset, .unset, .unset, .unset, .unset, .unset] [(.long q3), (.long t2)])) rfl (hb hby at_44) _ ?_
    show Steps p.tables e below (s₁.setTop (mkF m 47 #[.val (.int p1), .val (.long q1), .second, .val (.long q2), .second, .val (.long q3), .second, .val (.long q4), .second, .val (.int nn), .val (.int cn), .val (.long t1), .second, .val (.long t2), .second, .unset, .unset, .unset, .unset, .unset, .unset, .unset, .unset, .unset] [(.long (9223372036854775807 : Int64)), (.long q3), (.long t2)])) _
    refine XS.land X0.here hx rfl (hb hby at_47) rfl ?_
    refine XS.iconst X0.here hx rfl (hb hby at_48) ?_
    refine XS.lushr X0.here hx rfl (hb hby at_49) rfl ?_
    show Steps p.tables e below (s₁.setTop (mkF m 50 #[.val (.int p1), .val (.long q1), .second, .val (.long q2), .second, .val (.long q3), .second, .val (.long q4), .second, .val (.int nn), .val (.int cn), .val (.long t1), .second, .val (.long t2), .second, .unset, .unset, .unset, .unset, .unset, .unset, .unset, .unset, .unset] [(.long (((q3 &&& (9223372036854775807 : Int64)).toUInt64 >>> ((3 : Int32) &&& 0x3f).toInt64.toUInt64).toInt64)), (.long t2)])) _
    refine XS.ladd X0.here hx rfl (hb hby at_50) rfl ?_
    refine XS.lconst X0.here hx rfl (hb hby at_51) ?_
    refine XS.ladd X0.here hx rfl (hb hby at_52) rfl ?_
    show Steps p.tables e below (s₁.setTop (mkF m 53 #[.val (.int p1), .val (.long q1), .second, .val (.long q2), .second, .val (.long q3), .second, .val (.long q4), .second, .val (.int nn), .val (.int cn), .val (.long t1), .second, .val (.long t2), .second, .unset, .unset, .unset, .unset, .unset, .unset, .unset, .unset, .unset] [(.long ((t2 + (((q3 &&& (9223372036854775807 : Int64)).toUInt64 >>> ((3 : Int32) &&& 0x3f).toInt64.toUInt64).toInt64)) + (1 : Int64)))])) _
    rw [h_t3]
    refine XS.lstore X0.here hx rfl (hb hby at_53) rfl (l' := #[.val (.int p1), .val (.long q1), .second, .val (.long q2), .second, .val (.long q3), .second, .val (.long q4), .second, .val (.int nn), .val (.int cn), .val (.long t1), .second, .val (.long t2), .second, .val (.long t3), .second, .unset, .unset, .unset, .unset, .unset, .unset, .unset]) rfl ?_
    refine XS.lload X0.here hx rfl (hb hby at_55) rfl ?_
    refine XS.lload X0.here hx rfl (hb hby at_57) rfl ?_
    show Steps p.tables e below (s₁.setTop (mkF m 59 #[.val (.int p1), .val (.long q1), .second, .val (.long q2), .second, .val (.long q3), .second, .val (.long q4), .second, .val (.int nn), .val (.int cn), .val (.long t1), .second, .val (.long t2), .second, .val (.long t3), .second, .unset, .unset, .unset, .unset, .unset, .unset, .unset] [(.long q4), (.long t3)])) _
    refine X0.ldc2Long hx hown (mvT hZ (ow hw 0 rfl)) (g := (mkF m 59 #[.val (.int p1), .val (.long q1), .second, .val (.long q2), .second, .val (.long q3), .second, .val (.long q4), .second, .val (.int nn), .val (.int cn), .val (.long t1), .second, .val (.long t2), .second, .val (.long t3), .second, .unset, .unset, .unset, .unset, .unset, .unset, .unset] [(.long q4), (.long t3)])) rfl (hb hby at_59) _ ?_
    refine XS.land X0.here hx rfl (hb hby at_62) rfl ?_
    refine XS.iconst X0.here hx rfl (hb hby at_63) ?_
    show Steps p.tables e below (s₁.setTop (mkF m 64 #[.val (.int p1), .val (.long q1), .second, .val (.long q2), .second, .val (.long q3), .second, .val (.long q4), .second, .val (.int nn), .val (.int cn), .val (.long t1), .second, .val (.long t2), .second, .val (.long t3), .second, .unset, .unset, .unset, .unset, .unset, .unset, .unset] [(.int (3 : Int32)), (.long (q4 &&& (9223372036854775807 : Int64))), (.long t3)])) _
    refine XS.lushr X0.here hx rfl (hb hby at_64) rfl ?_
    refine XS.ladd X0.here hx rfl (hb hby at_65) rfl ?_
    refine XS.lconst X0.here hx rfl (hb hby at_66) ?_
    show Steps p.tables e below (s₁.setTop (mkF m 67 #[.val (.int p1), .val (.long q1), .second, .val (.long q2), .second, .val (.long q3), .second, .val (.long q4), .second, .val (.int nn), .val (.int cn), .val (.long t1), .second, .val (.long t2), .second, .val (.long t3), .second, .unset, .unset, .unset, .unset, .unset, .unset, .unset] [(.long (1 : Int64)), (.long (t3 + (((q4 &&& (9223372036854775807 : Int64)).toUInt64 >>> ((3 : Int32) &&& 0x3f).toInt64.toUInt64).toInt64)))])) _
    refine XS.ladd X0.here hx rfl (hb hby at_67) rfl ?_
    show Steps p.tables e below (s₁.setTop (mkF m 68 #[.val (.int p1), .val (.long q1), .second, .val (.long q2), .second, .val (.long q3), .second, .val (.long q4), .second, .val (.int nn), .val (.int cn), .val (.long t1), .second, .val (.long t2), .second, .val (.long t3), .second, .unset, .unset, .unset, .unset, .unset, .unset, .unset] [(.long ((t3 + (((q4 &&& (9223372036854775807 : Int64)).toUInt64 >>> ((3 : Int32) &&& 0x3f).toInt64.toUInt64).toInt64)) + (1 : Int64)))])) _
    rw [h_t4]
    refine XS.lstore X0.here hx rfl (hb hby at_68) rfl (l' := #[.val (.int p1), .val (.long q1), .second, .val (.long q2), .second, .val (.long q3), .second, .val (.long q4), .second, .val (.int nn), .val (.int cn), .val (.long t1), .second, .val (.long t2), .second, .val (.long t3), .second, .val (.long t4), .second, .unset, .unset, .unset, .unset, .unset]) rfl ?_
    refine st1 _ ?_
    show Steps p.tables e below (T1.setTop (mkF m 73 #[.val (.int p1), .val (.long q1), .second, .val (.long q2), .second, .val (.long q3), .second, .val (.long q4), .second, .val (.int nn), .val (.int cn), .val (.long t1), .second, .val (.long t2), .second, .val (.long t3), .second, .val (.long t4), .second, .unset, .unset, .unset, .unset, .unset] [(.ref b1)])) _
    refine XS.dup X1.here hx rfl (hb hby at_73) rfl rfl ?_
    refine st3.trans ?_
    refine XS.astore X3.here hx rfl (hb hby at_77) rfl rfl (l' := #[.val (.int p1), .val (.long q1), .second, .val (.long q2), .second, .val (.long q3), .second, .val (.long q4), .second, .val (.int nn), .val (.int cn), .val (.long t1), .second, .val (.long t2), .second, .val (.long t3), .second, .val (.long t4), .second, .val (.ref b1), .unset, .unset, .unset, .unset]) rfl ?_
    show Steps p.tables e below (T3.setTop (mkF m 79 #[.val (.int p1), .val (.long q1), .second, .val (.long q2), .second, .val (.long q3), .second, .val (.long q4), .second, .val (.int nn), .val (.int cn), .val (.long t1), .second, .val (.long t2), .second, .val (.long t3), .second, .val (.long t4), .second, .val (.ref b1), .unset, .unset, .unset, .unset] [])) _
    refine XS.aload X3.here hx rfl (hb hby at_79) rfl rfl ?_
    refine st5 _ ?_
    refine XS.dup X5.here hx rfl (hb hby at_84) rfl rfl ?_
    show Steps p.tables e below (T5.setTop (mkF m 85 #[.val (.int p1), .val (.long q1), .second, .val (.long q2), .second, .val (.long q3), .second, .val (.long q4), .second, .val (.int nn), .val (.int cn), .val (.long t1), .second, .val (.long t2), .second, .val (.long t3), .second, .val (.long t4), .second, .val (.ref b1), .unset, .unset, .unset, .unset] [(.ref b5), (.ref b5), (.ref b1)])) _
    refine XS.iload X5.here hx rfl (hb hby at_85) rfl ?_
    refine XS.lconst X5.here hx rfl (hb hby at_87) ?_
    refine st6 _ ?_
    show Steps p.tables e below (T6.setTop (mkF m 91 #[.val (.int p1), .val (.long q1), .second, .val (.long q2), .second, .val (.long q3), .second, .val (.long q4), .second, .val (.int nn), .val (.int cn), .val (.long t1), .second, .val (.long t2), .second, .val (.long t3), .second, .val (.long t4), .second, .val (.ref b1), .unset, .unset, .unset, .unset] [(.ref bb6), (.int cn), (.ref b5), (.ref b5), (.ref b1)])) _
    refine st15.trans ?_
    refine st29.trans ?_
    refine XS.pop X29.here hx rfl (hb hby at_97) rfl rfl ?_
    show Steps p.tables e below (T29.setTop (mkF m 98 #[.val (.int p1), .val (.long q1), .second, .val (.long q2), .second, .val (.long q3), .second, .val (.long q4), .second, .val (.int nn), .val (.int cn), .val (.long t1), .second, .val (.long t2), .second, .val (.long t3), .second, .val (.long t4), .second, .val (.ref b1), .unset, .unset, .unset, .unset] [])) _
    refine st32 _ ?_
    refine XS.dup X32.here hx rfl (hb hby at_101) rfl rfl ?_
    refine XS.aload X32.here hx rfl (hb hby at_102) rfl rfl ?_
    show Steps p.tables e below (T32.setTop (mkF m 104 #[.val (.int p1), .val (.long q1), .second, .val (.long q2), .second, .val (.long q3), .second, .val (.long q4), .second, .val (.int nn), .val (.int cn), .val (.long t1), .second, .val (.long t2), .second, .val (.long t3), .second, .val (.long t4), .second, .val (.ref b1), .unset, .unset, .unset, .unset] [(.ref b1), (.ref b32), (.ref b32)])) _
    refine st52.trans ?_
    refine XS.astore X52.here hx rfl (hb hby at_107) rfl rfl (l' := #[.val (.int p1), .val (.long q1), .second, .val (.long q2), .second, .val (.long q3), .second, .val (.long q4), .second, .val (.int nn), .val (.int cn), .val (.long t1), .second, .val (.long t2), .second, .val (.long t3), .second, .val (.long t4), .second, .val (.ref b1), .val (.ref b32), .unset, .unset, .unset]) rfl ?_
    refine st54 _ ?_
    show Steps p.tables e below (T54.setTop (mkF m 112 #[.val (.int p1), .val (.long q1), .second, .val (.long q2), .second, .val (.long q3), .second, .val (.long q4), .second, .val (.int nn), .val (.int cn), .val (.long t1), .second, .val (.long t2), .second, .val (.long t3), .second, .val (.long t4), .second, .val (.ref b1), .val (.ref b32), .unset, .unset, .unset] [(.ref b54)])) _
    refine XS.dup X54.here hx rfl (hb hby at_112) rfl rfl ?_
    refine XS.aload X54.here hx rfl (hb hby at_113) rfl rfl ?_
    refine st61.trans ?_
    show Steps p.tables e below (T61.setTop (mkF m 118 #[.val (.int p1), .val (.long q1), .second, .val (.long q2), .second, .val (.long q3), .second, .val (.long q4), .second, .val (.int nn), .val (.int cn), .val (.long t1), .second, .val (.long t2), .second, .val (.long t3), .second, .val (.long t4), .second, .val (.ref b1), .val (.ref b32), .unset, .unset, .unset] [(.ref b54)])) _
    refine XS.astore X61.here hx rfl (hb hby at_118) rfl rfl (l' := #[.val (.int p1), .val (.long q1), .second, .val (.long q2), .second, .val (.long q3), .second, .val (.long q4), .second, .val (.int nn), .val (.int cn), .val (.long t1), .second, .val (.long t2), .second, .val (.long t3), .second, .val (.long t4), .second, .val (.ref b1), .val (.ref b32), .val (.ref b54), .unset, .unset]) rfl ?_
    refine XS.aload X61.here hx rfl (hb hby at_120) rfl rfl ?_
    refine XS.aload X61.here hx rfl (hb hby at_122) rfl rfl ?_
    show Steps p.tables e below (T61.setTop (mkF m 124 #[.val (.int p1), .val (.long q1), .second, .val (.long q2), .second, .val (.long q3), .second, .val (.long q4), .second, .val (.int nn), .val (.int cn), .val (.long t1), .second, .val (.long t2), .second, .val (.long t3), .second, .val (.long t4), .second, .val (.ref b1), .val (.ref b32), .val (.ref b54), .unset, .unset] [(.ref b32), (.ref b54)])) _
    refine XS.lload X61.here hx rfl (hb hby at_124) rfl ?_
    refine st73.trans ?_
    refine XS.lload X73.here hx rfl (hb hby at_129) rfl ?_
    show Steps p.tables e below (T73.setTop (mkF m 131 #[.val (.int p1), .val (.long q1), .second, .val (.long q2), .second, .val (.long q3), .second, .val (.long q4), .second, .val (.int nn), .val (.int cn), .val (.long t1), .second, .val (.long t2), .second, .val (.long t3), .second, .val (.long t4), .second, .val (.ref b1), .val (.ref b32), .val (.ref b54), .unset, .unset] [(.long t1)])) _
    refine XS.lstore X73.here hx rfl (hb hby at_131) rfl (l' := #[.val (.int p1), .val (.long q1), .second, .val (.long q2), .second, .val (.long q3), .second, .val (.long q4), .second, .val (.int nn), .val (.int cn), .val (.long t1), .second, .val (.long t2), .second, .val (.long t3), .second, .val (.long t4), .second, .val (.ref b1), .val (.ref b32), .val (.ref b54), .val (.long t1), .second]) rfl ?_
    refine XS.iload X73.here hx rfl (hb hby at_133) rfl ?_
    refine XS.iconst X73.here hx rfl (hb hby at_135) ?_
    show Steps p.tables e below (T73.setTop (mkF m 136 #[.val (.int p1), .val (.long q1), .second, .val (.long q2), .second, .val (.long q3), .second, .val (.long q4), .second, .val (.int nn), .val (.int cn), .val (.long t1), .second, .val (.long t2), .second, .val (.long t3), .second, .val (.long t4), .second, .val (.ref b1), .val (.ref b32), .val (.ref b54), .val (.long t1), .second] [(.int (2 : Int32)), (.int nn)])) _
    refine XS.icmpYes X73.here hx rfl (pc0 := 136) (pc' := 152) rfl (hb hby at_136) rfl (tlt hc136).1 (by decide) (by decide) ?_
    refine XS.iload X73.here hx rfl (hb hby at_152) rfl ?_
    refine XS.iconst X73.here hx rfl (hb hby at_154) ?_
    show Steps p.tables e below (T73.setTop (mkF m 155 #[.val (.int p1), .val (.long q1), .second, .val (.long q2), .second, .val (.long q3), .second, .val (.long q4), .second, .val (.int nn), .val (.int cn), .val (.long t1), .second, .val (.long t2), .second, .val (.long t3), .second, .val (.long t4), .second, .val (.ref b1), .val (.ref b32), .val (.ref b54), .val (.long t1), .second] [(.int (3 : Int32)), (.int nn)])) _
    refine XS.icmpYes X73.here hx rfl (pc0 := 155) (pc' := 171) rfl (hb hby at_155) rfl (tlt hc155).1 (by decide) (by decide) ?_
    refine XS.iload X73.here hx rfl (hb hby at_171) rfl ?_
    refine XS.iconst X73.here hx rfl (hb hby at_173) ?_
    show Steps p.tables e below (T73.setTop (mkF m 174 #[.val (.int p1), .val (.long q1), .second, .val (.long q2), .second, .val (.long q3), .second, .val (.long q4), .second, .val (.int nn), .val (.int cn), .val (.long t1), .second, .val (.long t2), .second, .val (.long t3), .second, .val (.long t4), .second, .val (.ref b1), .val (.ref b32), .val (.ref b54), .val (.long t1), .second] [(.int (4 : Int32)), (.int nn)])) _
    refine XS.icmpYes X73.here hx rfl (pc0 := 174) (pc' := 190) rfl (hb hby at_174) rfl (tlt hc174).1 (by decide) (by decide) ?_
    refine XS.aload X73.here hx rfl (hb hby at_190) rfl rfl ?_
    refine st75.trans ?_
    show Steps p.tables e below (T75.setTop (mkF m 195 #[.val (.int p1), .val (.long q1), .second, .val (.long q2), .second, .val (.long q3), .second, .val (.long q4), .second, .val (.int nn), .val (.int cn), .val (.long t1), .second, .val (.long t2), .second, .val (.long t3), .second, .val (.long t4), .second, .val (.ref b1), .val (.ref b32), .val (.ref b54), .val (.long t1), .second] [(.long ((fun j => if j = 0 then t1 else (fun _ => (-9223372036854775808 : Int64)) j) (own_md ((own_md (0 + 1) n) + (n - 1)) n)))])) _
    refine XS.lload X75.here hx rfl (hb hby at_195) rfl ?_
    refine XS.lcmp X75.here hx rfl (hb hby at_197) rfl ?_
    refine XS.ifNo X75.here hx rfl (hb hby at_198) rfl ((if0 _ _).trans (teq ((lw_eq _ _).mpr ((own_read (f := (fun _ => (-9223372036854775808 : Int64))) hn1) : ((fun j => if j = 0 then t1 else (fun _ => (-9223372036854775808 : Int64)) j) (own_md ((own_md (0 + 1) n) + (n - 1)) n)) = t1))).2) ?_
    show Steps p.tables e below (T75.setTop (mkF m 201 #[.val (.int p1), .val (.long q1), .second, .val (.long q2), .second, .val (.long q3), .second, .val (.long q4), .second, .val (.int nn), .val (.int cn), .val (.long t1), .second, .val (.long t2), .second, .val (.long t3), .second, .val (.long t4), .second, .val (.ref b1), .val (.ref b32), .val (.ref b54), .val (.long t1), .second] [])) _
    refine XS.iconst X75.here hx rfl (hb hby at_201) ?_
    refine XS.goto X75.here hx rfl (pc0 := 202) (pc' := 206) rfl (hb hby at_202) (by decide) (by decide) ?_
    show Steps p.tables e below (T75.setTop (mkF m 206 #[.val (.int p1), .val (.long q1), .second, .val (.long q2), .second, .val (.long q3), .second, .val (.long q4), .second, .val (.int nn), .val (.int cn), .val (.long t1), .second, .val (.long t2), .second, .val (.long t3), .second, .val (.long t4), .second, .val (.ref b1), .val (.ref b32), .val (.ref b54), .val (.long t1), .second] [(.int (1 : Int32))])) _
    exact retN X75 hx (t := .boolean) Bd.returns (by simp) (hb hby at_206) hr
  · show QF h0 n0 _ T75.heap _
    rw [e75]
    exact ⟨rfl, N75⟩
set_option maxRecDepth 65536 in
set_option maxHeartbeats 40000000 in
theorem rm0_2 (l : Launch) (Z : State) (a0 : Array Value) (hw : ∀ d ∈ tables_1, d.before a0 Z = true) (ws : List Jvm.Cond) (p1 : Int32) (q1 : Int64) (q2 : Int64) (q3 : Int64) (q4 : Int64) (de : Addr) (kd : ClassId) (zd : Addr) (ld : Addr) (cn : Int32) (nn : Int32) (n : Nat) (h0 : Heap) (n0 : Nat) (Z0 : n0 ≤ h0.size) (O0 : Old Z n0 h0) (SDZ : Sta Z Z.heap "java/util/ArrayList" "DEFAULTCAPACITY_EMPTY_ELEMENTDATA" "[Ljava/lang/Object;" (.ref de)) (VDZ : Arv Z Z.heap de kd (.object "java/lang/Object") (0 : Int32) [] .null) (SZZ : Sta Z Z.heap "java/time/Duration" "ZERO" "Ljava/time/Duration;" (.ref zd)) (FZZ : Fld Z Z.heap zd "java/time/Duration" "seconds" "J" (.long (0 : Int64))) (FZN : Fld Z Z.heap zd "java/time/Duration" "nanos" "I" (.int (0 : Int32))) (SLZ : Sta Z Z.heap "com/example/steady_sluice/steadysluice/Rule" "LONGEST_PERIOD" "Ljava/time/Duration;" (.ref ld)) (FLZ : Fld Z Z.heap ld "java/time/Duration" "seconds" "J" (.long (9223372036 : Int64))) (hcnx : ((1 : Int32) + ((p1.toUInt32 >>> ((2 : Int32) &&& 31).toUInt32).toInt32 &&& (31 : Int32))) = cn) (hnnx : ((1 : Int32) + (p1 &&& (3 : Int32))) = nn) (hcn : ¬ (cn < (1 : Int32))) (hc1 : (0 : Int32) < cn) (hc2 : cn < (2147483647 : Int32)) (hn1 : 0 < n) (hn : n ≤ 16) (hcap : Int32.ofNat n < cn → n = 16) (hmin : ∀ (hh : Heap) (nn0 : Nat), nn0 ≤ hh.size → MetFree l nm_30 (head1 (Jvm.Cond.code nm_30 jdk_29_method_69_code 2 (some .int) :: []) rr0) (fun aa zU => aa = #[(.int cn), (.int (16 : Int32))] ∧ Z.Warmed39 zU.vm ∧ zU.heap = hh) (fun _ _ _ _ _ => True) (fun _ zU zo zU' => ∃ zv zL, zo = .returned zv ∧ QP (some (.int (Int32.ofNat n))) hh nn0 zv zU'.heap zL ∧ FrameEnd zU zo zU' zL rr0.cells rr0.slots)) (hc136 : ¬ (nn < (2 : Int32))) (hc155 : nn < (3 : Int32)) (hc174 : nn < (4 : Int32)) :
    MetFree l x (head1 (Jvm.Cond.code x code maxLocals ret :: ws) room_1) (fun aa zU => aa = #[(.int p1), (.long q1), (.long q2), (.long q3), (.long q4)] ∧ Z.Warmed39 zU.vm ∧ zU.heap = h0) (fun _ _ _ _ _ => True) (fun _ zU zo zU' => ∃ zv zL, zo = .returned zv ∧ QF h0 n0 zv zU'.heap zL ∧ ReturnedEndW zU zo zU' zL room_1.cells room_1.slots) := by
  refine MetFree.of_bodySF (plainFor_of_name pn_com_example_steady_sluice_steadysluice_ScopeNewestAdmissionPinLaw) hisR ?_
  intro p e s m args below meth c s₁ Bd hml0 hP hK
  obtain ⟨rfl, hZ, hh⟩ := hP
  have hx := Bd.exec
  have hby := Bd.bytes
  have hml : c.maxLocals = 24 := hml0
  have hown : s.vm.findClass "com/example/steady_sluice/steadysluice/ScopeNewestAdmissionPinLaw" = some m.cls := findClass_of_methodNamed Bd.named
  have hnm := (name_of_methodNamed Bd.named Bd.method).1
  have X0 : Stand p l e room_1 s m #[(.int p1), (.long q1), (.long q2), (.long q3), (.long q4)] below meth c s₁ [] 0 0 := Stand.of_body Bd
  have e0 : s₁.heap = h0 := by rw [← hh, Bd.state]; rfl
  have N0 := Fr.nil n0
  have pre0 : ∀ t, Steps p.tables e below (s₁.setTop (mkF m 0 #[.val (.int p1), .val (.long q1), .second, .val (.long q2), .second, .val (.long q3), .second, .val (.long q4), .second, .unset, .unset, .unset, .unset, .unset, .unset, .unset, .unset, .unset, .unset, .unset, .unset, .unset, .unset, .unset] [])) t → Steps p.tables e below (s₁.setTop (entryFrame m #[(.int p1), (.long q1), (.long q2), (.long q3), (.long q4)] maxLocals)) t := fun t k => castTop (ef_0 m p1 q1 q2 q3 q4) k
  obtain ⟨t1, h_t1⟩ : ∃ z, (((q1 &&& (9223372036854775807 : Int64)).toUInt64 >>> ((3 : Int32) &&& 0x3f).toInt64.toUInt64).toInt64) = z := ⟨_, rfl⟩
  obtain ⟨t2, h_t2⟩ : ∃ z, ((t1 + (((q2 &&& (9223372036854775807 : Int64)).toUInt64 >>> ((3 : Int32) &&& 0x3f).toInt64.toUInt64).toInt64)) + (1 : Int64)) = z := ⟨_, rfl⟩
  obtain ⟨t3, h_t3⟩ : ∃ z, ((t2 + (((q3 &&& (9223372036854775807 : Int64)).toUInt64 >>> ((3 : Int32) &&& 0x3f).toInt64.toUInt64).toInt64)) + (1 : Int64)) = z := ⟨_, rfl⟩
  obtain ⟨t4, h_t4⟩ : ∃ z, ((t3 + (((q4 &&& (9223372036854775807 : Int64)).toUInt64 >>> ((3 : Int32) &&& 0x3f).toInt64.toUInt64).toInt64)) + (1 : Int64)) = z := ⟨_, rfl⟩
  obtain ⟨T1, h1, X1, e1, E1, A1, D1, -, st1⟩ := newO X0 hx hZ hown (ow hw 1 rfl) (ow hw 2 rfl) (ow hw 3 rfl) e0 (g := (mkF m 70 #[.val (.int p1), .val (.long q1), .second, .val (.long q2), .second, .val (.long q3), .second, .val (.long q4), .second, .val (.int nn), .val (.int cn), .val (.long t1), .second, .val (.long t2), .second, .val (.long t3), .second, .val (.long t4), .second, .unset, .unset, .unset, .unset, .unset] [])) rfl (hb hby at_70) (by decide) (by decide)
  obtain ⟨b1, g_b1⟩ : ∃ z, z = h0.size := ⟨_, rfl⟩
  rw [← g_b1] at A1 D1 st1
  have g0_b1 : n0 ≤ b1 := Nat.le_trans Z0 (Nat.le_of_eq g_b1.symm)
  have sz_b1 : h0.size ≤ b1 := Nat.le_trans (Nat.le_refl _) (Nat.le_of_eq g_b1.symm)
  have F_modCount_b1 : Fld Z h1 b1 "java/util/AbstractList" "modCount" "I" (.int (0 : Int32)) := D1 (Or.inl (ow hw 23 rfl)) (ty := .int) (by decide)
  have F_elementData_b1 : Fld Z h1 b1 "java/util/ArrayList" "elementData" "[Ljava/lang/Object;" .null := D1 (Or.inl (ow hw 26 rfl)) (ty := (.array (.object "java/lang/Object"))) (by decide)
  have F_size_b1 : Fld Z h1 b1 "java/util/ArrayList" "size" "I" (.int (0 : Int32)) := D1 (Or.inl (ow hw 94 rfl)) (ty := .int) (by decide)
  have c2 := O0.ext E1
  obtain ⟨_, _, ⟨T3, L3, k3, n3⟩, -, X3, ⟨Lc3, hQ3, l3, y3, z3⟩, st3⟩ := X1.specialBack hx (y := nm_1) rfl hown (mvT hZ (ow hw 4 rfl)) (mvT hZ (ow hw 5 rfl)) (mvT hZ (ow hw 6 rfl)) (by decide) (backOf (W := 1) (rm1 l Z a0 hw [] b1 de h1 n0 (Nat.le_trans Z0 E1.1) g0_b1 ⟨A1, F_modCount_b1, F_elementData_b1, F_size_b1⟩ (SDZ.ext c2.2)) hZ (ow hw 6 rfl) (ow hw 3 rfl) (by decide) (by decide)) (g := (mkF m 74 #[.val (.int p1), .val (.long q1), .second, .val (.long q2), .second, .val (.long q3), .second, .val (.long q4), .second, .val (.int nn), .val (.int cn), .val (.long t1), .second, .val (.long t2), .second, .val (.long t3), .second, .val (.long t4), .second, .unset, .unset, .unset, .unset, .unset] [(.ref b1), (.ref b1)])) rfl (by rw [hml]; rfl) (Steps.refl _) (a := b1) (argsL := []) (rest := [(.ref b1)]) (lenOf pd_0 rfl) rfl (by show 2 * 0 + _ ≤ _; exact Nat.le_of_eq rfl) (hb hby at_74) (fun _ _ => ⟨rfl, e1, (by decide : 1 + 0 ≤ _), (by decide : 3 + 0 ≤ _)⟩)
  dsimp only [Pt.U, Pt.locs, Pt.cells, Pt.slots] at X3 l3 y3 z3 st3 hQ3
  subst l3 y3 z3
  obtain ⟨rfl, N3q, K3, P03⟩ := hQ3
  have N3 := Fr.app N0 N3q
  obtain ⟨Eob4, F0ob4, F1ob4, F2ob4⟩ := id P03
  obtain ⟨T5, h5, X5, e5, E5, A5, D5, -, st5⟩ := newO X3 hx hZ hown (ow hw 27 rfl) (ow hw 28 rfl) (ow hw 29 rfl) rfl (g := (mkF m 81 #[.val (.int p1), .val (.long q1), .second, .val (.long q2), .second, .val (.long q3), .second, .val (.long q4), .second, .val (.int nn), .val (.int cn), .val (.long t1), .second, .val (.long t2), .second, .val (.long t3), .second, .val (.long t4), .second, .val (.ref b1), .unset, .unset, .unset, .unset] [(.ref b1)])) rfl (hb hby at_81) (by decide) (by decide)
  obtain ⟨b5, g_b5⟩ : ∃ z, z = T3.heap.size := ⟨_, rfl⟩
  rw [← g_b5] at A5 D5 st5
  have g0_b5 : n0 ≤ b5 := Nat.le_trans (Nat.le_trans (Nat.le_trans Z0 E1.1) K3.1) (Nat.le_of_eq g_b5.symm)
  have sz_b5 : h0.size ≤ b5 := Nat.le_trans (Nat.le_trans (Nat.le_trans (Nat.le_refl _) E1.1) K3.1) (Nat.le_of_eq g_b5.symm)
  have ne_b1_b5 : b1 ≠ b5 := Nat.ne_of_lt (Nat.lt_of_lt_of_le Eob4.lt (Nat.le_of_eq g_b5.symm))
  have F_count_b5 : Fld Z h5 b5 "com/example/steady_sluice/steadysluice/Rule" "count" "I" (.int (0 : Int32)) := D5 (Or.inr (ow hw 83 rfl)) (ty := .int) (by decide)
  have F_period_b5 : Fld Z h5 b5 "com/example/steady_sluice/steadysluice/Rule" "period" "Ljava/time/Duration;" .null := D5 (Or.inr (ow hw 85 rfl)) (ty := (.object "java/time/Duration")) (by decide)
  obtain ⟨_, _, ⟨T6, L6, k6, n6⟩, -, X6, ⟨Lc6, hQ6, l6, y6, z6⟩, st6⟩ := Jvm.LawKit.callS X5 hx (y := nm_5) hown (mvT hZ (ow hw 30 rfl)) (mvT hZ (ow hw 31 rfl)) (mvT hZ (ow hw 32 rfl)) (mvT hZ (ow hw 33 rfl)) (by decide) (backOf (W := 4) (rm5 l Z a0 hw [] h5 n0 (Nat.le_trans (Nat.le_trans (Nat.le_trans Z0 E1.1) K3.1) E5.1)) hZ (ow hw 33 rfl) (ow hw 32 rfl) (by decide) (by decide)) (g := (mkF m 88 #[.val (.int p1), .val (.long q1), .second, .val (.long q2), .second, .val (.long q3), .second, .val (.long q4), .second, .val (.int nn), .val (.int cn), .val (.long t1), .second, .val (.long t2), .second, .val (.long t3), .second, .val (.long t4), .second, .val (.ref b1), .unset, .unset, .unset, .unset] [(.long (1 : Int64)), (.int cn), (.ref b5), (.ref b5), (.ref b1)])) rfl (by rw [hml]; rfl) (argsL := [(.long (1 : Int64))]) (rest := [(.int cn), (.ref b5), (.ref b5), (.ref b1)]) (lenOf pd_1 rfl) rfl (by show 2 * 0 + _ ≤ _; exact Nat.le_of_eq rfl) (hb hby at_88) (fun _ _ => ⟨rfl, e5, (by decide : 2 + 1 ≤ _), (by decide : 5 + 2 ≤ _)⟩)
  dsimp only [Pt.U, Pt.locs, Pt.cells, Pt.slots] at X6 l6 y6 z6 st6 hQ6
  subst l6 y6 z6
  obtain ⟨bb6, rfl, N6q, K6, g0_bb6, szq6, P06⟩ := hQ6
  have N6 := Fr.app N3 N6q
  have c7 := Eob4.ext E5
  have ne_b1_bb6 : b1 ≠ bb6 := Nat.ne_of_lt (Nat.lt_of_lt_of_le c7.lt szq6)
  have ne_b5_bb6 : b5 ≠ bb6 := Nat.ne_of_lt (Nat.lt_of_lt_of_le A5.lt szq6)
  have sz_bb6 : h0.size ≤ bb6 := Nat.le_trans (Nat.le_trans (Nat.le_trans (Nat.le_trans (Nat.le_refl _) E1.1) K3.1) E5.1) szq6
  obtain ⟨Eob8, F0ob8, F1ob8⟩ := id P06
  have c9 := c2.keep K3 (allS g0_b1 all0)
  have c10 := c9.ext E5
  have c11 := c10.keep K6 all0
  have c12 := A5.keep K6
  have c13 := F_count_b5.keep K6 nin0
  have c14 := F_period_b5.keep K6 nin0
  obtain ⟨_, _, ⟨T15, L15, k15, n15⟩, -, X15, hS, hsz, ⟨Lc15, hQ15, l15, y15, z15⟩, st15⟩ := X6.specialBackS hx (y := nm_8) rfl hown (mvT hZ (ow hw 49 rfl)) (mvT hZ (ow hw 50 rfl)) (mvT hZ (ow hw 51 rfl)) (by decide) (backOfS (W := 2) (rm8 l Z a0 hw [] b5 cn bb6 zd ld T6.heap n0 (Nat.le_trans (Nat.le_trans (Nat.le_trans (Nat.le_trans Z0 E1.1) K3.1) E5.1) K6.1) g0_b5 ⟨c12, c13, c14⟩ ⟨Eob8, F0ob8, F1ob8⟩ hcn (SZZ.ext c11.2) (FZZ.ext c11.2) (FZN.ext c11.2) (SLZ.ext c11.2) (FLZ.ext c11.2)) hZ (ow hw 51 rfl) (ow hw 29 rfl) (by decide) (by decide)) (g := (mkF m 91 #[.val (.int p1), .val (.long q1), .second, .val (.long q2), .second, .val (.long q3), .second, .val (.long q4), .second, .val (.int nn), .val (.int cn), .val (.long t1), .second, .val (.long t2), .second, .val (.long t3), .second, .val (.long t4), .second, .val (.ref b1), .unset, .unset, .unset, .unset] [(.ref bb6), (.int cn), (.ref b5), (.ref b5), (.ref b1)])) rfl (by rw [hml]; rfl) (Steps.refl _) (a := b5) (argsL := [(.int cn), (.ref bb6)]) (rest := [(.ref b5), (.ref b1)]) (lenOf pd_4 rfl) rfl (by show 2 * 0 + _ ≤ _; exact Nat.le_of_eq rfl) (hb hby at_91) (fun _ _ => ⟨rfl, rfl, (by decide : 3 + 2 ≤ _), (by decide : 7 + 28 ≤ _)⟩)
  dsimp only [Pt.U, Pt.locs, Pt.cells, Pt.slots] at X15 l15 y15 z15 st15 hQ15 hS hsz
  subst l15 y15 z15
  obtain ⟨rfl, N15q, K15, P015⟩ := hQ15
  have N15 := Fr.app N6 N15q
  have hZ1 : Z.Warmed39 (s.setVm T15.vm).vm := State.Warmed39.trans hZ hS.1
  have hown1 : (s.setVm T15.vm).vm.findClass "com/example/steady_sluice/steadysluice/ScopeNewestAdmissionPinLaw" = some m.cls := (hS.1.alike.findClass _ _).trans hown
  obtain ⟨Eob16, F0ob16, F1ob16⟩ := id P015
  have c17 := c11.keep K15 (allS g0_b5 all0)
  have c18 := c7.keep K6
  have c19 := c18.keep K15
  have c20 := F0ob4.ext E5
  have c21 := c20.keep K6 nin0
  have c22 := c21.keep K15 (ninS ne_b1_b5 nin0)
  have c23 := F1ob4.ext E5
  have c24 := c23.keep K6 nin0
  have c25 := c24.keep K15 (ninS ne_b1_b5 nin0)
  have c26 := F2ob4.ext E5
  have c27 := c26.keep K6 nin0
  have c28 := c27.keep K15 (ninS ne_b1_b5 nin0)
  obtain ⟨cq29, kq29, q29a, q29b, q29c⟩ := isOf hZ1 rfl c19
  obtain ⟨_, _, ⟨T29, L29, k29, n29⟩, -, X29, ⟨Lc29, hQ29, l29, y29, z29⟩, st29⟩ := X15.virtualBack hx (y := nm_13) (z := nm_13) hown1 (mvT hZ1 (ow hw 86 rfl)) (mvT hZ1 (ow hw 87 rfl)) (notFace_of_selects (args := #[]) (mvT hZ1 (ow hw 89 rfl))) (mvT hZ1 (ow hw 89 rfl)) (mvT hZ1 (ow hw 88 rfl)) (by decide) (backOf (W := 0) (rm13 l Z a0 hw [] b1 b5 de kd T15.heap n0 (Nat.le_trans (Nat.le_trans (Nat.le_trans (Nat.le_trans (Nat.le_trans Z0 E1.1) K3.1) E5.1) K6.1) K15.1) g0_b1 ⟨c19, c22, c25, c28⟩ (VDZ.ext c17.2) (SDZ.ext c17.2) Eob16) hZ1 (ow hw 90 rfl) (ow hw 3 rfl) (by decide) (by decide)) q29a q29c (g := (mkF m 94 #[.val (.int p1), .val (.long q1), .second, .val (.long q2), .second, .val (.long q3), .second, .val (.long q4), .second, .val (.int nn), .val (.int cn), .val (.long t1), .second, .val (.long t2), .second, .val (.long t3), .second, .val (.long t4), .second, .val (.ref b1), .unset, .unset, .unset, .unset] [(.ref b5), (.ref b1)])) rfl (by rw [hml]; rfl) (Steps.refl _) (argsL := [(.ref b5)]) (rest := []) (lenOf pd_8 rfl) rfl (by show 2 * 0 + _ ≤ _; exact Nat.le_of_eq rfl) (hb hby at_94) (fun _ _ => ⟨rfl, rfl, (by decide : 5 + 1 ≤ _), (by decide : 35 + 10 ≤ _)⟩)
  dsimp only [Pt.U, Pt.locs, Pt.cells, Pt.slots] at X29 l29 y29 z29 st29 hQ29
  subst l29 y29 z29
  obtain ⟨rfl, N29q, K29, bb29, kk29, g0_bb29, szq29, P029, VV29⟩ := hQ29
  have N29 := Fr.app N15 N29q
  have ne_b1_bb29 : b1 ≠ bb29 := Nat.ne_of_lt (Nat.lt_of_lt_of_le c19.lt szq29)
  have ne_b5_bb29 : b5 ≠ bb29 := Nat.ne_of_lt (Nat.lt_of_lt_of_le Eob16.lt szq29)
  have c30 := Eob8.keep K15
  have ne_bb6_bb29 : bb6 ≠ bb29 := Nat.ne_of_lt (Nat.lt_of_lt_of_le c30.lt szq29)
  have sz_bb29 : h0.size ≤ bb29 := Nat.le_trans (Nat.le_trans (Nat.le_trans (Nat.le_trans (Nat.le_trans (Nat.le_trans (Nat.le_refl _) E1.1) K3.1) E5.1) K6.1) K15.1) szq29
  obtain ⟨Eob31, F0ob31, F1ob31, F2ob31⟩ := id P029
  obtain ⟨T32, h32, X32, e32, E32, A32, D32, -, st32⟩ := newO X29 hx hZ1 hown1 (ow hw 117 rfl) (ow hw 118 rfl) (ow hw 119 rfl) rfl (g := (mkF m 98 #[.val (.int p1), .val (.long q1), .second, .val (.long q2), .second, .val (.long q3), .second, .val (.long q4), .second, .val (.int nn), .val (.int cn), .val (.long t1), .second, .val (.long t2), .second, .val (.long t3), .second, .val (.long t4), .second, .val (.ref b1), .unset, .unset, .unset, .unset] [])) rfl (hb hby at_98) (by decide) (by decide)
  obtain ⟨b32, g_b32⟩ : ∃ z, z = T29.heap.size := ⟨_, rfl⟩
  rw [← g_b32] at A32 D32 st32
  have g0_b32 : n0 ≤ b32 := Nat.le_trans (Nat.le_trans (Nat.le_trans (Nat.le_trans (Nat.le_trans (Nat.le_trans (Nat.le_trans Z0 E1.1) K3.1) E5.1) K6.1) K15.1) K29.1) (Nat.le_of_eq g_b32.symm)
  have sz_b32 : h0.size ≤ b32 := Nat.le_trans (Nat.le_trans (Nat.le_trans (Nat.le_trans (Nat.le_trans (Nat.le_trans (Nat.le_trans (Nat.le_refl _) E1.1) K3.1) E5.1) K6.1) K15.1) K29.1) (Nat.le_of_eq g_b32.symm)
  have ne_b1_b32 : b1 ≠ b32 := Nat.ne_of_lt (Nat.lt_of_lt_of_le Eob31.lt (Nat.le_of_eq g_b32.symm))
  have c33 := Eob16.keep K29
  have ne_b5_b32 : b5 ≠ b32 := Nat.ne_of_lt (Nat.lt_of_lt_of_le c33.lt (Nat.le_of_eq g_b32.symm))
  have c34 := c30.keep K29
  have ne_bb6_b32 : bb6 ≠ b32 := Nat.ne_of_lt (Nat.lt_of_lt_of_le c34.lt (Nat.le_of_eq g_b32.symm))
  have ne_bb29_b32 : bb29 ≠ b32 := Nat.ne_of_lt (Nat.lt_of_lt_of_le VV29.lt (Nat.le_of_eq g_b32.symm))
  have F_counts_b32 : Fld Z h32 b32 "com/example/steady_sluice/steadysluice/RuleSet" "counts" "[I" .null := D32 (Or.inr (ow hw 135 rfl)) (ty := (.array .int)) (by decide)
  have F_periodNanos_b32 : Fld Z h32 b32 "com/example/steady_sluice/steadysluice/RuleSet" "periodNanos" "[J" .null := D32 (Or.inr (ow hw 138 rfl)) (ty := (.array .long)) (by decide)
  have F_largestCount_b32 : Fld Z h32 b32 "com/example/steady_sluice/steadysluice/RuleSet" "largestCount" "I" (.int (0 : Int32)) := D32 (Or.inr (ow hw 194 rfl)) (ty := .int) (by decide)
  have F_smallestCount_b32 : Fld Z h32 b32 "com/example/steady_sluice/steadysluice/RuleSet" "smallestCount" "I" (.int (0 : Int32)) := D32 (Or.inr (ow hw 196 rfl)) (ty := .int) (by decide)
  have F_longestPeriodNanos_b32 : Fld Z h32 b32 "com/example/steady_sluice/steadysluice/RuleSet" "longestPeriodNanos" "J" (.long (0 : Int64)) := D32 (Or.inr (ow hw 198 rfl)) (ty := .long) (by decide)
  have c35 := Eob31.ext E32
  have c36 := F0ob31.ext E32
  have c37 := F1ob31.ext E32
  have c38 := F2ob31.ext E32
  have c39 := VV29.ext E32
  have c40 := c33.ext E32
  have c41 := F0ob16.keep K29 (ninS (Ne.symm ne_b1_b5) nin0)
  have c42 := c41.ext E32
  have c43 := F1ob16.keep K29 (ninS (Ne.symm ne_b1_b5) nin0)
  have c44 := c43.ext E32
  have c45 := c34.ext E32
  have c46 := F0ob8.keep K15 (ninS (Ne.symm ne_b5_bb6) nin0)
  have c47 := c46.keep K29 (ninS (Ne.symm ne_b1_bb6) nin0)
  have c48 := c47.ext E32
  have c49 := F1ob8.keep K15 (ninS (Ne.symm ne_b5_bb6) nin0)
  have c50 := c49.keep K29 (ninS (Ne.symm ne_b1_bb6) nin0)
  have c51 := c50.ext E32
  obtain ⟨_, _, ⟨T52, L52, k52, n52⟩, -, X52, ⟨Lc52, hQ52, l52, y52, z52⟩, st52⟩ := X32.specialBack hx (y := nm_18) rfl hown1 (mvT hZ1 (ow hw 120 rfl)) (mvT hZ1 (ow hw 121 rfl)) (mvT hZ1 (ow hw 122 rfl)) (by decide) (backOf (W := 1) (rm18 l Z a0 hw [] b32 b1 bb29 kk29 b5 bb6 ((0 : Int32) + (1 : Int32)) cn h32 n0 (Nat.le_trans (Nat.le_trans (Nat.le_trans (Nat.le_trans (Nat.le_trans (Nat.le_trans (Nat.le_trans Z0 E1.1) K3.1) E5.1) K6.1) K15.1) K29.1) E32.1) g0_b32 ⟨A32, F_counts_b32, F_periodNanos_b32, F_largestCount_b32, F_smallestCount_b32, F_longestPeriodNanos_b32⟩ ⟨c35, c36, c37, c38⟩ c39 ⟨c40, c42, c44⟩ ⟨c45, c48, c51⟩ hc1 hc2) hZ1 (ow hw 122 rfl) (ow hw 119 rfl) (by decide) (by decide)) (g := (mkF m 104 #[.val (.int p1), .val (.long q1), .second, .val (.long q2), .second, .val (.long q3), .second, .val (.long q4), .second, .val (.int nn), .val (.int cn), .val (.long t1), .second, .val (.long t2), .second, .val (.long t3), .second, .val (.long t4), .second, .val (.ref b1), .unset, .unset, .unset, .unset] [(.ref b1), (.ref b32), (.ref b32)])) rfl (by rw [hml]; rfl) (Steps.refl _) (a := b32) (argsL := [(.ref b1)]) (rest := [(.ref b32)]) (lenOf pd_13 rfl) rfl (by show 2 * 0 + _ ≤ _; exact Nat.le_of_eq rfl) (hb hby at_104) (fun _ _ => ⟨rfl, e32, (by decide : 7 + 2 ≤ _), (by decide : 50 + 2 ≤ _)⟩)
  dsimp only [Pt.U, Pt.locs, Pt.cells, Pt.slots] at X52 l52 y52 z52 st52 hQ52
  subst l52 y52 z52
  obtain ⟨rfl, N52q, K52, c152, c252, P052⟩ := hQ52
  have N52 := Fr.app N29 N52q
  obtain ⟨Eob53, F0ob53, F1ob53, F2ob53, F3ob53, F4ob53⟩ := id P052
  obtain ⟨T54, h54, X54, e54, E54, A54, D54, -, st54⟩ := newO X52 hx hZ1 hown1 (ow hw 199 rfl) (ow hw 200 rfl) (ow hw 201 rfl) rfl (g := (mkF m 109 #[.val (.int p1), .val (.long q1), .second, .val (.long q2), .second, .val (.long q3), .second, .val (.long q4), .second, .val (.int nn), .val (.int cn), .val (.long t1), .second, .val (.long t2), .second, .val (.long t3), .second, .val (.long t4), .second, .val (.ref b1), .val (.ref b32), .unset, .unset, .unset] [])) rfl (hb hby at_109) (by decide) (by decide)
  obtain ⟨b54, g_b54⟩ : ∃ z, z = T52.heap.size := ⟨_, rfl⟩
  rw [← g_b54] at A54 D54 st54
  have g0_b54 : n0 ≤ b54 := Nat.le_trans (Nat.le_trans (Nat.le_trans (Nat.le_trans (Nat.le_trans (Nat.le_trans (Nat.le_trans (Nat.le_trans (Nat.le_trans Z0 E1.1) K3.1) E5.1) K6.1) K15.1) K29.1) E32.1) K52.1) (Nat.le_of_eq g_b54.symm)
  have sz_b54 : h0.size ≤ b54 := Nat.le_trans (Nat.le_trans (Nat.le_trans (Nat.le_trans (Nat.le_trans (Nat.le_trans (Nat.le_trans (Nat.le_trans (Nat.le_trans (Nat.le_refl _) E1.1) K3.1) E5.1) K6.1) K15.1) K29.1) E32.1) K52.1) (Nat.le_of_eq g_b54.symm)
  have c55 := c35.keep K52
  have ne_b1_b54 : b1 ≠ b54 := Nat.ne_of_lt (Nat.lt_of_lt_of_le c55.lt (Nat.le_of_eq g_b54.symm))
  have c56 := c40.keep K52
  have ne_b5_b54 : b5 ≠ b54 := Nat.ne_of_lt (Nat.lt_of_lt_of_le c56.lt (Nat.le_of_eq g_b54.symm))
  have c57 := c45.keep K52
  have ne_bb6_b54 : bb6 ≠ b54 := Nat.ne_of_lt (Nat.lt_of_lt_of_le c57.lt (Nat.le_of_eq g_b54.symm))
  have c58 := c39.keep K52 (ninS ne_bb29_b32 nin0)
  have ne_bb29_b54 : bb29 ≠ b54 := Nat.ne_of_lt (Nat.lt_of_lt_of_le c58.lt (Nat.le_of_eq g_b54.symm))
  have ne_b32_b54 : b32 ≠ b54 := Nat.ne_of_lt (Nat.lt_of_lt_of_le Eob53.lt (Nat.le_of_eq g_b54.symm))
  have F_times_b54 : Fld Z h54 b54 "com/example/steady_sluice/steadysluice/Scope" "times" "[J" .null := D54 (Or.inl (ow hw 213 rfl)) (ty := (.array .long)) (by decide)
  have F_head_b54 : Fld Z h54 b54 "com/example/steady_sluice/steadysluice/Scope" "head" "I" (.int (0 : Int32)) := D54 (Or.inl (ow hw 225 rfl)) (ty := .int) (by decide)
  have c59 := Eob53.ext E54
  have c60 := F2ob53.ext E54
  obtain ⟨_, _, ⟨T61, L61, k61, n61⟩, -, X61, ⟨Lc61, hQ61, l61, y61, z61⟩, st61⟩ := X54.specialBack hx (y := nm_32) rfl hown1 (mvT hZ1 (ow hw 202 rfl)) (mvT hZ1 (ow hw 203 rfl)) (mvT hZ1 (ow hw 204 rfl)) (by decide) (backOf (W := 1) (rm32 l Z a0 hw [] b54 b32 cn n h54 n0 (Nat.le_trans (Nat.le_trans (Nat.le_trans (Nat.le_trans (Nat.le_trans (Nat.le_trans (Nat.le_trans (Nat.le_trans (Nat.le_trans Z0 E1.1) K3.1) E5.1) K6.1) K15.1) K29.1) E32.1) K52.1) E54.1) g0_b54 ⟨A54, F_times_b54, F_head_b54⟩ hn (hmin h54 n0 (Nat.le_trans (Nat.le_trans (Nat.le_trans (Nat.le_trans (Nat.le_trans (Nat.le_trans (Nat.le_trans (Nat.le_trans (Nat.le_trans Z0 E1.1) K3.1) E5.1) K6.1) K15.1) K29.1) E32.1) K52.1) E54.1)) c59 c60) hZ1 (ow hw 204 rfl) (ow hw 201 rfl) (by decide) (by decide)) (g := (mkF m 115 #[.val (.int p1), .val (.long q1), .second, .val (.long q2), .second, .val (.long q3), .second, .val (.long q4), .second, .val (.int nn), .val (.int cn), .val (.long t1), .second, .val (.long t2), .second, .val (.long t3), .second, .val (.long t4), .second, .val (.ref b1), .val (.ref b32), .unset, .unset, .unset] [(.ref b32), (.ref b54), (.ref b54)])) rfl (by rw [hml]; rfl) (Steps.refl _) (a := b54) (argsL := [(.ref b32)]) (rest := [(.ref b54)]) (lenOf pd_21 rfl) rfl (by show 2 * 0 + _ ≤ _; exact Nat.le_of_eq rfl) (hb hby at_115) (fun _ _ => ⟨rfl, e54, (by decide : 10 + 1 ≤ _), (by decide : 54 + 16 ≤ _)⟩)
  dsimp only [Pt.U, Pt.locs, Pt.cells, Pt.slots] at X61 l61 y61 z61 st61 hQ61
  subst l61 y61 z61
  obtain ⟨rfl, N61q, K61, ar61, g0_ar61, szq61, P061, FF61⟩ := hQ61
  have N61 := Fr.app N52 N61q
  have c62 := c55.ext E54
  have ne_b1_ar61 : b1 ≠ ar61 := Nat.ne_of_lt (Nat.lt_of_lt_of_le c62.lt szq61)
  have c63 := c56.ext E54
  have ne_b5_ar61 : b5 ≠ ar61 := Nat.ne_of_lt (Nat.lt_of_lt_of_le c63.lt szq61)
  have c64 := c57.ext E54
  have ne_bb6_ar61 : bb6 ≠ ar61 := Nat.ne_of_lt (Nat.lt_of_lt_of_le c64.lt szq61)
  have c65 := c58.ext E54
  have ne_bb29_ar61 : bb29 ≠ ar61 := Nat.ne_of_lt (Nat.lt_of_lt_of_le c65.lt szq61)
  have ne_b32_ar61 : b32 ≠ ar61 := Nat.ne_of_lt (Nat.lt_of_lt_of_le c59.lt szq61)
  have ne_b54_ar61 : b54 ≠ ar61 := Nat.ne_of_lt (Nat.lt_of_lt_of_le A54.lt szq61)
  have sz_ar61 : h0.size ≤ ar61 := Nat.le_trans (Nat.le_trans (Nat.le_trans (Nat.le_trans (Nat.le_trans (Nat.le_trans (Nat.le_trans (Nat.le_trans (Nat.le_trans (Nat.le_trans (Nat.le_refl _) E1.1) K3.1) E5.1) K6.1) K15.1) K29.1) E32.1) K52.1) E54.1) szq61
  obtain ⟨Eob66, F0ob66, F1ob66⟩ := id P061
  have c67 := c59.keep K61
  have c68 := c60.keep K61 (ninS ne_b32_b54 nin0)
  have c69 := F3ob53.ext E54
  have c70 := c69.keep K61 (ninS ne_b32_b54 nin0)
  have c71 := F4ob53.ext E54
  have c72 := c71.keep K61 (ninS ne_b32_b54 nin0)
  obtain ⟨cq73, kq73, q73a, q73b, q73c⟩ := isOf hZ1 rfl Eob66
  obtain ⟨_, _, ⟨T73, L73, k73, n73⟩, -, X73, ⟨Lc73, hQ73, l73, y73, z73⟩, st73⟩ := X61.virtualBack hx (y := nm_35) (z := nm_35) hown1 (mvT hZ1 (ow hw 219 rfl)) (mvT hZ1 (ow hw 220 rfl)) (notFace_of_selects (args := #[]) (mvT hZ1 (ow hw 222 rfl))) (mvT hZ1 (ow hw 222 rfl)) (mvT hZ1 (ow hw 221 rfl)) (by decide) (backOf (W := 0) (rm35 l Z a0 hw [] b54 b32 ar61 n (fun _ => (-9223372036854775808 : Int64)) 0 cn t1 T61.heap n0 (Nat.le_trans (Nat.le_trans (Nat.le_trans (Nat.le_trans (Nat.le_trans (Nat.le_trans (Nat.le_trans (Nat.le_trans (Nat.le_trans (Nat.le_trans Z0 E1.1) K3.1) E5.1) K6.1) K15.1) K29.1) E32.1) K52.1) E54.1) K61.1) g0_b54 g0_ar61 hn hn1 ⟨Eob66, F0ob66, F1ob66⟩ FF61 c67 c68 c70 c72 (fun q => by have e := hcap q; subst e; rfl)) hZ1 (ow hw 223 rfl) (ow hw 201 rfl) (by decide) (by decide)) q73a q73c (g := (mkF m 126 #[.val (.int p1), .val (.long q1), .second, .val (.long q2), .second, .val (.long q3), .second, .val (.long q4), .second, .val (.int nn), .val (.int cn), .val (.long t1), .second, .val (.long t2), .second, .val (.long t3), .second, .val (.long t4), .second, .val (.ref b1), .val (.ref b32), .val (.ref b54), .unset, .unset] [(.long t1), (.ref b32), (.ref b54)])) rfl (by rw [hml]; rfl) (Steps.refl _) (argsL := [(.ref b32), (.long t1)]) (rest := []) (lenOf pd_23 rfl) rfl (by show 2 * 0 + _ ≤ _; exact Nat.le_of_eq rfl) (hb hby at_126) (fun _ _ => ⟨rfl, rfl, (by decide : 11 + 0 ≤ _), (by decide : 70 + 0 ≤ _)⟩)
  dsimp only [Pt.U, Pt.locs, Pt.cells, Pt.slots] at X73 l73 y73 z73 st73 hQ73
  subst l73 y73 z73
  obtain ⟨rfl, N73q, K73, P073, FF73⟩ := hQ73
  have N73 := Fr.app N61 N73q
  obtain ⟨Eob74, F0ob74, F1ob74⟩ := id P073
  have c75 := c67.keep K73
  have c76 := c68.keep K73 (ninS ne_b32_b54 (ninS ne_b32_ar61 nin0))
  have c77 := c70.keep K73 (ninS ne_b32_b54 (ninS ne_b32_ar61 nin0))
  have c78 := c72.keep K73 (ninS ne_b32_b54 (ninS ne_b32_ar61 nin0))
  obtain ⟨cq79, kq79, q79a, q79b, q79c⟩ := isOf hZ1 rfl Eob74
  obtain ⟨_, _, ⟨T79, L79, k79, n79⟩, -, X79, ⟨Lc79, hQ79, l79, y79, z79⟩, st79⟩ := X73.virtualBack hx (y := nm_35) (z := nm_35) hown1 (mvT hZ1 (ow hw 219 rfl)) (mvT hZ1 (ow hw 220 rfl)) (notFace_of_selects (args := #[]) (mvT hZ1 (ow hw 222 rfl))) (mvT hZ1 (ow hw 222 rfl)) (mvT hZ1 (ow hw 221 rfl)) (by decide) (backOf (W := 0) (rm35 l Z a0 hw [] b54 b32 ar61 n (fun j => if j = 0 then t1 else (fun _ => (-9223372036854775808 : Int64)) j) (own_md (0 + 1) n) cn t2 T73.heap n0 (Nat.le_trans (Nat.le_trans (Nat.le_trans (Nat.le_trans (Nat.le_trans (Nat.le_trans (Nat.le_trans (Nat.le_trans (Nat.le_trans (Nat.le_trans (Nat.le_trans Z0 E1.1) K3.1) E5.1) K6.1) K15.1) K29.1) E32.1) K52.1) E54.1) K61.1) K73.1) g0_b54 g0_ar61 hn (own_mdlt hn1) ⟨Eob74, F0ob74, F1ob74⟩ FF73 c75 c76 c77 c78 (fun q => by have e := hcap q; subst e; rfl)) hZ1 (ow hw 223 rfl) (ow hw 201 rfl) (by decide) (by decide)) q79a q79c (g := (mkF m 145 #[.val (.int p1), .val (.long q1), .second, .val (.long q2), .second, .val (.long q3), .second, .val (.long q4), .second, .val (.int nn), .val (.int cn), .val (.long t1), .second, .val (.long t2), .second, .val (.long t3), .second, .val (.long t4), .second, .val (.ref b1), .val (.ref b32), .val (.ref b54), .val (.long t1), .second] [(.long t2), (.ref b32), (.ref b54)])) rfl (by rw [hml]; rfl) (Steps.refl _) (argsL := [(.ref b32), (.long t2)]) (rest := []) (lenOf pd_23 rfl) rfl (by show 2 * 0 + _ ≤ _; exact Nat.le_of_eq rfl) (hb hby at_145) (fun _ _ => ⟨rfl, rfl, (by decide : 11 + 0 ≤ _), (by decide : 70 + 0 ≤ _)⟩)
  dsimp only [Pt.U, Pt.locs, Pt.cells, Pt.slots] at X79 l79 y79 z79 st79 hQ79
  subst l79 y79 z79
  obtain ⟨rfl, N79q, K79, P079, FF79⟩ := hQ79
  have N79 := Fr.app N73 N79q
  obtain ⟨Eob80, F0ob80, F1ob80⟩ := id P079
  obtain ⟨cq81, kq81, q81a, q81b, q81c⟩ := isOf hZ1 rfl Eob80
  obtain ⟨_, _, ⟨T81, L81, k81, n81⟩, -, X81, ⟨Lc81, hQ81, l81, y81, z81⟩, st81⟩ := X79.virtualBack hx (y := nm_37) (z := nm_37) hown1 (mvT hZ1 (ow hw 230 rfl)) (mvT hZ1 (ow hw 231 rfl)) (notFace_of_selects (args := #[]) (mvT hZ1 (ow hw 233 rfl))) (mvT hZ1 (ow hw 233 rfl)) (mvT hZ1 (ow hw 232 rfl)) (by decide) (backOf (W := 0) (rm37 l Z a0 hw [] b54 ar61 n (fun j => if j = (own_md (0 + 1) n) then t2 else (fun j => if j = 0 then t1 else (fun _ => (-9223372036854775808 : Int64)) j) j) (own_md ((own_md (0 + 1) n) + 1) n) T79.heap n0 (Nat.le_trans (Nat.le_trans (Nat.le_trans (Nat.le_trans (Nat.le_trans (Nat.le_trans (Nat.le_trans (Nat.le_trans (Nat.le_trans (Nat.le_trans (Nat.le_trans (Nat.le_trans Z0 E1.1) K3.1) E5.1) K6.1) K15.1) K29.1) E32.1) K52.1) E54.1) K61.1) K73.1) K79.1) hn (own_mdlt (own_mdlt hn1)) ⟨Eob80, F0ob80, F1ob80⟩ FF79) hZ1 (ow hw 234 rfl) (ow hw 201 rfl) (by decide) (by decide)) q81a q81c (g := (mkF m 192 #[.val (.int p1), .val (.long q1), .second, .val (.long q2), .second, .val (.long q3), .second, .val (.long q4), .second, .val (.int nn), .val (.int cn), .val (.long t1), .second, .val (.long t2), .second, .val (.long t3), .second, .val (.long t4), .second, .val (.ref b1), .val (.ref b32), .val (.ref b54), .val (.long t2), .second] [(.ref b54)])) rfl (by rw [hml]; rfl) (Steps.refl _) (argsL := []) (rest := []) (lenOf pd_18 rfl) rfl (by show 2 * 0 + _ ≤ _; exact Nat.le_of_eq rfl) (hb hby at_192) (fun _ _ => ⟨rfl, rfl, (by decide : 11 + 0 ≤ _), (by decide : 70 + 0 ≤ _)⟩)
  dsimp only [Pt.U, Pt.locs, Pt.cells, Pt.slots] at X81 l81 y81 z81 st81 hQ81
  subst l81 y81 z81
  obtain ⟨rfl, N81q, e81⟩ := hQ81
  have N81 := Fr.app N79 N81q
  obtain ⟨fsq, hr, hrun, hended, hRW⟩ := X81.leaveW hS (by rw [e81]; exact (Nat.le_trans (Nat.le_trans (Nat.le_trans (Nat.le_trans (Nat.le_trans (Nat.le_trans (Nat.le_trans (Nat.le_refl _) K29.1) E32.1) K52.1) E54.1) K61.1) K73.1) K79.1)) (v := some (.int (1 : Int32))) (fun h => by rw [Bd.returns] at h; cases h)
  refine ⟨_, _, pre0 _ ?_, hrun, hended, _, _, rfl, ?_, hRW.1, hRW.2.1, hRW.2.2.1, hRW.2.2.2.mono (by decide) (by decide)⟩
  · show Steps p.tables e below (s₁.setTop (mkF m 0 #[.val (.int p1), .val (.long q1), .second, .val (.long q2), .second, .val (.long q3), .second, .val (.long q4), .second, .unset, .unset, .unset, .unset, .unset, .unset, .unset, .unset, .unset, .unset, .unset, .unset, .unset, .unset, .unset] [])) _
    refine XS.iconst X0.here hx rfl (hb hby at_0) ?_
    refine XS.iloadN X0.here hx rfl (hb hby at_1) rfl ?_
    refine XS.iconst X0.here hx rfl (hb hby at_2) ?_
    show Steps p.tables e below (s₁.setTop (mkF m 3 #[.val (.int p1), .val (.long q1), .second, .val (.long q2), .second, .val (.long q3), .second, .val (.long q4), .second, .unset, .unset, .unset, .unset, .unset, .unset, .unset, .unset, .unset, .unset, .unset, .unset, .unset, .unset, .unset] [(.int (3 : Int32)), (.int p1), (.int (1 : Int32))])) _
    refine XS.iand X0.here hx rfl (hb hby at_3) rfl ?_
    refine XS.iadd X0.here hx rfl (hb hby at_4) rfl ?_
    show Steps p.tables e below (s₁.setTop (mkF m 5 #[.val (.int p1), .val (.long q1), .second, .val (.long q2), .second, .val (.long q3), .second, .val (.long q4), .second, .unset, .unset, .unset, .unset, .unset, .unset, .unset, .unset, .unset, .unset, .unset, .unset, .unset, .unset, .unset] [(.int ((1 : Int32) + (p1 &&& (3 : Int32))))])) _
    rw [hnnx]
    refine XS.istore X0.here hx rfl (hb hby at_5) rfl (l' := #[.val (.int p1), .val (.long q1), .second, .val (.long q2), .second, .val (.long q3), .second, .val (.long q4), .second, .val (.int nn), .unset, .unset, .unset, .unset, .unset, .unset, .unset, .unset, .unset, .unset, .unset, .unset, .unset, .unset]) rfl ?_
    show Steps p.tables e below (s₁.setTop (mkF m 7 #[.val (.int p1), .val (.long q1), .second, .val (.long q2), .second, .val (.long q3), .second, .val (.long q4), .second, .val (.int nn), .unset, .unset, .unset, .unset, .unset, .unset, .unset, .unset, .unset, .unset, .unset, .unset, .unset, .unset] [])) _
    refine XS.iconst X0.here hx rfl (hb hby at_7) ?_
    refine XS.iloadN X0.here hx rfl (hb hby at_8) rfl ?_
    refine XS.iconst X0.here hx rfl (hb hby at_9) ?_
    show Steps p.tables e below (s₁.setTop (mkF m 10 #[.val (.int p1), .val (.long q1), .second, .val (.long q2), .second, .val (.long q3), .second, .val (.long q4), .second, .val (.int nn), .unset, .unset, .unset, .unset, .unset, .unset, .unset, .unset, .unset, .unset, .unset, .unset, .unset, .unset] [(.int (2 : Int32)), (.int p1), (.int (1 : Int32))])) _
    refine XS.iushr X0.here hx rfl (hb hby at_10) rfl ?_
    refine XS.bipush X0.here hx rfl (hb hby at_11) ?_
    refine XS.iand X0.here hx rfl (hb hby at_13) rfl ?_
    show Steps p.tables e below (s₁.setTop (mkF m 14 #[.val (.int p1), .val (.long q1), .second, .val (.long q2), .second, .val (.long q3), .second, .val (.long q4), .second, .val (.int nn), .unset, .unset, .unset, .unset, .unset, .unset, .unset, .unset, .unset, .unset, .unset, .unset, .unset, .unset] [(.int (((p1.toUInt32 >>> ((2 : Int32) &&& 31).toUInt32).toInt32) &&& (31 : Int32))), (.int (1 : Int32))])) _
    refine XS.iadd X0.here hx rfl (hb hby at_14) rfl ?_
    show Steps p.tables e below (s₁.setTop (mkF m 15 #[.val (.int p1), .val (.long q1), .second, .val (.long q2), .second, .val (.long q3), .second, .val (.long q4), .second, .val (.int nn), .unset, .unset, .unset, .unset, .unset, .unset, .unset, .unset, .unset, .unset, .unset, .unset, .unset, .unset] [(.int ((1 : Int32) + (((p1.toUInt32 >>> ((2 : Int32) &&& 31).toUInt32).toInt32) &&& (31 : Int32))))])) _
    rw [hcnx]
    refine XS.istore X0.here hx rfl (hb hby at_15) rfl (l' := #[.val (.int p1), .val (.long q1), .second, .val (.long q2), .second, .val (.long q3), .second, .val (.long q4), .second, .val (.int nn), .val (.int cn), .unset, .unset, .unset, .unset, .unset, .unset, .unset, .unset, .unset, .unset, .unset, .unset, .unset]) rfl ?_
    refine XS.lloadN X0.here hx rfl (hb hby at_17) rfl ?_
    show Steps p.tables e below (s₁.setTop (mkF m 18 #[.val (.int p1), .val (.long q1), .second, .val (.long q2), .second, .val (.long q3), .second, .val (.long q4), .second, .val (.int nn), .val (.int cn), .unset, .unset, .unset, .unset, .unset, .unset, .unset, .unset, .unset, .unset, .unset, .unset, .unset] [(.long q1)])) _
    refine X0.ldc2Long hx hown (mvT hZ (ow hw 0 rfl)) (g := (mkF m 18 #[.val (.int p1), .val (.long q1), .second, .val (.long q2), .second, .val (.long q3), .second, .val (.long q4), .second, .val (.int nn), .val (.int cn), .unset, .unset, .unset, .unset, .unset, .unset, .unset, .unset, .unset, .unset, .unset, .unset, .unset] [(.long q1)])) rfl (hb hby at_18) _ ?_
    refine XS.land X0.here hx rfl (hb hby at_21) rfl ?_
    refine XS.iconst X0.here hx rfl (hb hby at_22) ?_
    show Steps p.tables e below (s₁.setTop (mkF m 23 #[.val (.int p1), .val (.long q1), .second, .val (.long q2), .second, .val (.long q3), .second, .val (.long q4), .second, .val (.int nn), .val (.int cn), .unset, .unset, .unset, .unset, .unset, .unset, .unset, .unset, .unset, .unset, .unset, .unset, .unset] [(.int (3 : Int32)), (.long (q1 &&& (9223372036854775807 : Int64)))])) _
    refine XS.lushr X0.here hx rfl (hb hby at_23) rfl ?_
    show Steps p.tables e below (s₁.setTop (mkF m 24 #[.val (.int p1), .val (.long q1), .second, .val (.long q2), .second, .val (.long q3), .second, .val (.long q4), .second, .val (.int nn), .val (.int cn), .unset, .unset, .unset, .unset, .unset, .unset, .unset, .unset, .unset, .unset, .unset, .unset, .unset] [(.long (((q1 &&& (9223372036854775807 : Int64)).toUInt64 >>> ((3 : Int32) &&& 0x3f).toInt64.toUInt64).toInt64))])) _
    rw [h_t1]
    refine XS.lstore X0.here hx rfl (hb hby at_24) rfl (l' := #[.val (.int p1), .val (.long q1), .second, .val (.long q2), .second, .val (.long q3), .second, .val (.long q4), .second, .val (.int nn), .val (.int cn), .val (.long t1), .second, .unset, .unset, .unset, .unset, .unset, .unset, .unset, .unset, .unset, .unset, .unset]) rfl ?_
    refine XS.lload X0.here hx rfl (hb hby at_26) rfl ?_
    show Steps p.tables e below (s₁.setTop (mkF m 28 #[.val (.int p1), .val (.long q1), .second, .val (.long q2), .second, .val (.long q3), .second, .val (.long q4), .second, .val (.int nn), .val (.int cn), .val (.long t1), .second, .unset, .unset, .unset, .unset, .unset, .unset, .unset, .unset, .unset, .unset, .unset] [(.long t1)])) _
    refine XS.lloadN X0.here hx rfl (hb hby at_28) rfl ?_
    refine X0.ldc2Long hx hown (mvT hZ (ow hw 0 rfl)) (g := (mkF m 29 #[.val (.int p1), .val (.long q1), .second, .val (.long q2), .second, .val (.long q3), .second, .val (.long q4), .second, .val (.int nn), .val (.int cn), .val (.long t1), .second, .unset, .unset, .unset, .unset, .unset, .unset, .unset, .unset, .unset, .unset, .unset] [(.long q2), (.long t1)])) rfl (hb hby at_29) _ ?_
    refine XS.land X0.here hx rfl (hb hby at_32) rfl ?_
    show Steps p.tables e below (s₁.setTop (mkF m 33 #[.val (.int p1), .val (.long q1), .second, .val (.long q2), .second, .val (.long q3), .second, .val (.long q4), .second, .val (.int nn), .val (.int cn), .val (.long t1), .second, .unset, .unset, .unset, .unset, .unset, .unset, .unset, .unset, .unset, .unset, .unset] [(.long (q2 &&& (9223372036854775807 : Int64))), (.long t1)])) _
    refine XS.iconst X0.here hx rfl (hb hby at_33) ?_
    refine XS.lushr X0.here hx rfl (hb hby at_34) rfl ?_
    refine XS.ladd X0.here hx rfl (hb hby at_35) rfl ?_
    show Steps p.tables e below (s₁.setTop (mkF m 36 #[.val (.int p1), .val (.long q1), .second, .val (.long q2), .second, .val (.long q3), .second, .val (.long q4), .second, .val (.int nn), .val (.int cn), .val (.long t1), .second, .unset, .unset, .unset, .unset, .unset, .unset, .unset, .unset, .unset, .unset, .unset] [(.long (t1 + (((q2 &&& (9223372036854775807 : Int64)).toUInt64 >>> ((3 : Int32) &&& 0x3f).toInt64.toUInt64).toInt64)))])) _
    refine XS.lconst X0.here hx rfl (hb hby at_36) ?_
    refine XS.ladd X0.here hx rfl (hb hby at_37) rfl ?_
    show Steps p.tables e below (s₁.setTop (mkF m 38 #[.val (.int p1), .val (.long q1), .second, .val (.long q2), .second, .val (.long q3), .second, .val (.long q4), .second, .val (.int nn), .val (.int cn), .val (.long t1), .second, .unset, .unset, .unset, .unset, .unset, .unset, .unset, .unset, .unset, .unset, .unset] [(.long ((t1 + (((q2 &&& (9223372036854775807 : Int64)).toUInt64 >>> ((3 : Int32) &&& 0x3f).toInt64.toUInt64).toInt64)) + (1 : Int64)))])) _
    rw [h_t2]
    refine XS.lstore X0.here hx rfl (hb hby at_38) rfl (l' := #[.val (.int p1), .val (.long q1), .second, .val (.long q2), .second, .val (.long q3), .second, .val (.long q4), .second, .val (.int nn), .val (.int cn), .val (.long t1), .second, .val (.long t2), .second, .unset, .unset, .unset, .unset, .unset, .unset, .unset, .unset, .unset]) rfl ?_
    show Steps p.tables e below (s₁.setTop (mkF m 40 #[.val (.int p1), .val (.long q1), .second, .val (.long q2), .second, .val (.long q3), .second, .val (.long q4), .second, .val (.int nn), .val (.int cn), .val (.long t1), .second, .val (.long t2), .second, .unset, .unset, .unset, .unset, .unset, .unset, .unset, .unset, .unset] [])) _
    refine XS.lload X0.here hx rfl (hb hby at_40) rfl ?_
    refine XS.lload X0.here hx rfl (hb hby at_42) rfl ?_
    refine X0.ldc2Long hx hown (mvT hZ (ow hw 0 rfl)) (g := (mkF m 44 #[.val (.int p1), .val (.long q1), .second, .val (.long q2), .second, .val (.long q3), .second, .val (.long q4), .second, .val (.int nn), .val (.int cn), .val (.long t1), .second, .val (.long t2), .second, .unset, .unset, .unset, .unset, .unset, .unset, .unset, .unset, .unset] [(.long q3), (.long t2)])) rfl (hb hby at_44) _ ?_
    show Steps p.tables e below (s₁.setTop (mkF m 47 #[.val (.int p1), .val (.long q1), .second, .val (.long q2), .second, .val (.long q3), .second, .val (.long q4), .second, .val (.int nn), .val (.int cn), .val (.long t1), .second, .val (.long t2), .second, .unset, .unset, .unset, .unset, .unset, .unset, .unset, .unset, .unset] [(.long (9223372036854775807 : Int64)), (.long q3), (.long t2)])) _
    refine XS.land X0.here hx rfl (hb hby at_47) rfl ?_
    refine XS.iconst X0.here hx rfl (hb hby at_48) ?_
    refine XS.lushr X0.here hx rfl (hb hby at_49) rfl ?_
    show Steps p.tables e below (s₁.setTop (mkF m 50 #[.val (.int p1), .val (.long q1), .second, .val (.long q2), .second, .val (.long q3), .second, .val (.long q4), .second, .val (.int nn), .val (.int cn), .val (.long t1), .second, .val (.long t2), .second, .unset, .unset, .unset, .unset, .unset, .unset, .unset, .unset, .unset] [(.long (((q3 &&& (9223372036854775807 : Int64)).toUInt64 >>> ((3 : Int32) &&& 0x3f).toInt64.toUInt64).toInt64)), (.long t2)])) _
    refine XS.ladd X0.here hx rfl (hb hby at_50) rfl ?_
    refine XS.lconst X0.here hx rfl (hb hby at_51) ?_
    refine XS.ladd X0.here hx rfl (hb hby at_52) rfl ?_
    show Steps p.tables e below (s₁.setTop (mkF m 53 #[.val (.int p1), .val (.long q1), .second, .val (.long q2), .second, .val (.long q3), .second, .val (.long q4), .second, .val (.int nn), .val (.int cn), .val (.long t1), .second, .val (.long t2), .second, .unset, .unset, .unset, .unset, .unset, .unset, .unset, .unset, .unset] [(.long ((t2 + (((q3 &&& (9223372036854775807 : Int64)).toUInt64 >>> ((3 : Int32) &&& 0x3f).toInt64.toUInt64).toInt64)) + (1 : Int64)))])) _
    rw [h_t3]
    refine XS.lstore X0.here hx rfl (hb hby at_53) rfl (l' := #[.val (.int p1), .val (.long q1), .second, .val (.long q2), .second, .val (.long q3), .second, .val (.long q4), .second, .val (.int nn), .val (.int cn), .val (.long t1), .second, .val (.long t2), .second, .val (.long t3), .second, .unset, .unset, .unset, .unset, .unset, .unset, .unset]) rfl ?_
    refine XS.lload X0.here hx rfl (hb hby at_55) rfl ?_
    refine XS.lload X0.here hx rfl (hb hby at_57) rfl ?_
    show Steps p.tables e below (s₁.setTop (mkF m 59 #[.val (.int p1), .val (.long q1), .second, .val (.long q2), .second, .val (.long q3), .second, .val (.long q4), .second, .val (.int nn), .val (.int cn), .val (.long t1), .second, .val (.long t2), .second, .val (.long t3), .second, .unset, .unset, .unset, .unset, .unset, .unset, .unset] [(.long q4), (.long t3)])) _
    refine X0.ldc2Long hx hown (mvT hZ (ow hw 0 rfl)) (g := (mkF m 59 #[.val (.int p1), .val (.long q1), .second, .val (.long q2), .second, .val (.long q3), .second, .val (.long q4), .second, .val (.int nn), .val (.int cn), .val (.long t1), .second, .val (.long t2), .second, .val (.long t3), .second, .unset, .unset, .unset, .unset, .unset, .unset, .unset] [(.long q4), (.long t3)])) rfl (hb hby at_59) _ ?_
    refine XS.land X0.here hx rfl (hb hby at_62) rfl ?_
    refine XS.iconst X0.here hx rfl (hb hby at_63) ?_
    show Steps p.tables e below (s₁.setTop (mkF m 64 #[.val (.int p1), .val (.long q1), .second, .val (.long q2), .second, .val (.long q3), .second, .val (.long q4), .second, .val (.int nn), .val (.int cn), .val (.long t1), .second, .val (.long t2), .second, .val (.long t3), .second, .unset, .unset, .unset, .unset, .unset, .unset, .unset] [(.int (3 : Int32)), (.long (q4 &&& (9223372036854775807 : Int64))), (.long t3)])) _
    refine XS.lushr X0.here hx rfl (hb hby at_64) rfl ?_
    refine XS.ladd X0.here hx rfl (hb hby at_65) rfl ?_
    refine XS.lconst X0.here hx rfl (hb hby at_66) ?_
    show Steps p.tables e below (s₁.setTop (mkF m 67 #[.val (.int p1), .val (.long q1), .second, .val (.long q2), .second, .val (.long q3), .second, .val (.long q4), .second, .val (.int nn), .val (.int cn), .val (.long t1), .second, .val (.long t2), .second, .val (.long t3), .second, .unset, .unset, .unset, .unset, .unset, .unset, .unset] [(.long (1 : Int64)), (.long (t3 + (((q4 &&& (9223372036854775807 : Int64)).toUInt64 >>> ((3 : Int32) &&& 0x3f).toInt64.toUInt64).toInt64)))])) _
    refine XS.ladd X0.here hx rfl (hb hby at_67) rfl ?_
    show Steps p.tables e below (s₁.setTop (mkF m 68 #[.val (.int p1), .val (.long q1), .second, .val (.long q2), .second, .val (.long q3), .second, .val (.long q4), .second, .val (.int nn), .val (.int cn), .val (.long t1), .second, .val (.long t2), .second, .val (.long t3), .second, .unset, .unset, .unset, .unset, .unset, .unset, .unset] [(.long ((t3 + (((q4 &&& (9223372036854775807 : Int64)).toUInt64 >>> ((3 : Int32) &&& 0x3f).toInt64.toUInt64).toInt64)) + (1 : Int64)))])) _
    rw [h_t4]
    refine XS.lstore X0.here hx rfl (hb hby at_68) rfl (l' := #[.val (.int p1), .val (.long q1), .second, .val (.long q2), .second, .val (.long q3), .second, .val (.long q4), .second, .val (.int nn), .val (.int cn), .val (.long t1), .second, .val (.long t2), .second, .val (.long t3), .second, .val (.long t4), .second, .unset, .unset, .unset, .unset, .unset]) rfl ?_
    refine st1 _ ?_
    show Steps p.tables e below (T1.setTop (mkF m 73 #[.val (.int p1), .val (.long q1), .second, .val (.long q2), .second, .val (.long q3), .second, .val (.long q4), .second, .val (.int nn), .val (.int cn), .val (.long t1), .second, .val (.long t2), .second, .val (.long t3), .second, .val (.long t4), .second, .unset, .unset, .unset, .unset, .unset] [(.ref b1)])) _
    refine XS.dup X1.here hx rfl (hb hby at_73) rfl rfl ?_
    refine st3.trans ?_
    refine XS.astore X3.here hx rfl (hb hby at_77) rfl rfl (l' := #[.val (.int p1), .val (.long q1), .second, .val (.long q2), .second, .val (.long q3), .second, .val (.long q4), .second, .val (.int nn), .val (.int cn), .val (.long t1), .second, .val (.long t2), .second, .val (.long t3), .second, .val (.long t4), .second, .val (.ref b1), .unset, .unset, .unset, .unset]) rfl ?_
    show Steps p.tables e below (T3.setTop (mkF m 79 #[.val (.int p1), .val (.long q1), .second, .val (.long q2), .second, .val (.long q3), .second, .val (.long q4), .second, .val (.int nn), .val (.int cn), .val (.long t1), .second, .val (.long t2), .second, .val (.long t3), .second, .val (.long t4), .second, .val (.ref b1), .unset, .unset, .unset, .unset] [])) _
    refine XS.aload X3.here hx rfl (hb hby at_79) rfl rfl ?_
    refine st5 _ ?_
    refine XS.dup X5.here hx rfl (hb hby at_84) rfl rfl ?_
    show Steps p.tables e below (T5.setTop (mkF m 85 #[.val (.int p1), .val (.long q1), .second, .val (.long q2), .second, .val (.long q3), .second, .val (.long q4), .second, .val (.int nn), .val (.int cn), .val (.long t1), .second, .val (.long t2), .second, .val (.long t3), .second, .val (.long t4), .second, .val (.ref b1), .unset, .unset, .unset, .unset] [(.ref b5), (.ref b5), (.ref b1)])) _
    refine XS.iload X5.here hx rfl (hb hby at_85) rfl ?_
    refine XS.lconst X5.here hx rfl (hb hby at_87) ?_
    refine st6 _ ?_
    show Steps p.tables e below (T6.setTop (mkF m 91 #[.val (.int p1), .val (.long q1), .second, .val (.long q2), .second, .val (.long q3), .second, .val (.long q4), .second, .val (.int nn), .val (.int cn), .val (.long t1), .second, .val (.long t2), .second, .val (.long t3), .second, .val (.long t4), .second, .val (.ref b1), .unset, .unset, .unset, .unset] [(.ref bb6), (.int cn), (.ref b5), (.ref b5), (.ref b1)])) _
    refine st15.trans ?_
    refine st29.trans ?_
    refine XS.pop X29.here hx rfl (hb hby at_97) rfl rfl ?_
    show Steps p.tables e below (T29.setTop (mkF m 98 #[.val (.int p1), .val (.long q1), .second, .val (.long q2), .second, .val (.long q3), .second, .val (.long q4), .second, .val (.int nn), .val (.int cn), .val (.long t1), .second, .val (.long t2), .second, .val (.long t3), .second, .val (.long t4), .second, .val (.ref b1), .unset, .unset, .unset, .unset] [])) _
    refine st32 _ ?_
    refine XS.dup X32.here hx rfl (hb hby at_101) rfl rfl ?_
    refine XS.aload X32.here hx rfl (hb hby at_102) rfl rfl ?_
    show Steps p.tables e below (T32.setTop (mkF m 104 #[.val (.int p1), .val (.long q1), .second, .val (.long q2), .second, .val (.long q3), .second, .val (.long q4), .second, .val (.int nn), .val (.int cn), .val (.long t1), .second, .val (.long t2), .second, .val (.long t3), .second, .val (.long t4), .second, .val (.ref b1), .unset, .unset, .unset, .unset] [(.ref b1), (.ref b32), (.ref b32)])) _
    refine st52.trans ?_
    refine XS.astore X52.here hx rfl (hb hby at_107) rfl rfl (l' := #[.val (.int p1), .val (.long q1), .second, .val (.long q2), .second, .val (.long q3), .second, .val (.long q4), .second, .val (.int nn), .val (.int cn), .val (.long t1), .second, .val (.long t2), .second, .val (.long t3), .second, .val (.long t4), .second, .val (.ref b1), .val (.ref b32), .unset, .unset, .unset]) rfl ?_
    refine st54 _ ?_
    show Steps p.tables e below (T54.setTop (mkF m 112 #[.val (.int p1), .val (.long q1), .second, .val (.long q2), .second, .val (.long q3), .second, .val (.long q4), .second, .val (.int nn), .val (.int cn), .val (.long t1), .second, .val (.long t2), .second, .val (.long t3), .second, .val (.long t4), .second, .val (.ref b1), .val (.ref b32), .unset, .unset, .unset] [(.ref b54)])) _
    refine XS.dup X54.here hx rfl (hb hby at_112) rfl rfl ?_
    refine XS.aload X54.here hx rfl (hb hby at_113) rfl rfl ?_
    refine st61.trans ?_
    show Steps p.tables e below (T61.setTop (mkF m 118 #[.val (.int p1), .val (.long q1), .second, .val (.long q2), .second, .val (.long q3), .second, .val (.long q4), .second, .val (.int nn), .val (.int cn), .val (.long t1), .second, .val (.long t2), .second, .val (.long t3), .second, .val (.long t4), .second, .val (.ref b1), .val (.ref b32), .unset, .unset, .unset] [(.ref b54)])) _
    refine XS.astore X61.here hx rfl (hb hby at_118) rfl rfl (l' := #[.val (.int p1), .val (.long q1), .second, .val (.long q2), .second, .val (.long q3), .second, .val (.long q4), .second, .val (.int nn), .val (.int cn), .val (.long t1), .second, .val (.long t2), .second, .val (.long t3), .second, .val (.long t4), .second, .val (.ref b1), .val (.ref b32), .val (.ref b54), .unset, .unset]) rfl ?_
    refine XS.aload X61.here hx rfl (hb hby at_120) rfl rfl ?_
    refine XS.aload X61.here hx rfl (hb hby at_122) rfl rfl ?_
    show Steps p.tables e below (T61.setTop (mkF m 124 #[.val (.int p1), .val (.long q1), .second, .val (.long q2), .second, .val (.long q3), .second, .val (.long q4), .second, .val (.int nn), .val (.int cn), .val (.long t1), .second, .val (.long t2), .second, .val (.long t3), .second, .val (.long t4), .second, .val (.ref b1), .val (.ref b32), .val (.ref b54), .unset, .unset] [(.ref b32), (.ref b54)])) _
    refine XS.lload X61.here hx rfl (hb hby at_124) rfl ?_
    refine st73.trans ?_
    refine XS.lload X73.here hx rfl (hb hby at_129) rfl ?_
    show Steps p.tables e below (T73.setTop (mkF m 131 #[.val (.int p1), .val (.long q1), .second, .val (.long q2), .second, .val (.long q3), .second, .val (.long q4), .second, .val (.int nn), .val (.int cn), .val (.long t1), .second, .val (.long t2), .second, .val (.long t3), .second, .val (.long t4), .second, .val (.ref b1), .val (.ref b32), .val (.ref b54), .unset, .unset] [(.long t1)])) _
    refine XS.lstore X73.here hx rfl (hb hby at_131) rfl (l' := #[.val (.int p1), .val (.long q1), .second, .val (.long q2), .second, .val (.long q3), .second, .val (.long q4), .second, .val (.int nn), .val (.int cn), .val (.long t1), .second, .val (.long t2), .second, .val (.long t3), .second, .val (.long t4), .second, .val (.ref b1), .val (.ref b32), .val (.ref b54), .val (.long t1), .second]) rfl ?_
    refine XS.iload X73.here hx rfl (hb hby at_133) rfl ?_
    refine XS.iconst X73.here hx rfl (hb hby at_135) ?_
    show Steps p.tables e below (T73.setTop (mkF m 136 #[.val (.int p1), .val (.long q1), .second, .val (.long q2), .second, .val (.long q3), .second, .val (.long q4), .second, .val (.int nn), .val (.int cn), .val (.long t1), .second, .val (.long t2), .second, .val (.long t3), .second, .val (.long t4), .second, .val (.ref b1), .val (.ref b32), .val (.ref b54), .val (.long t1), .second] [(.int (2 : Int32)), (.int nn)])) _
    refine XS.icmpNo X73.here hx rfl (hb hby at_136) rfl (flt hc136).1 ?_
    refine XS.aload X73.here hx rfl (hb hby at_139) rfl rfl ?_
    refine XS.aload X73.here hx rfl (hb hby at_141) rfl rfl ?_
    show Steps p.tables e below (T73.setTop (mkF m 143 #[.val (.int p1), .val (.long q1), .second, .val (.long q2), .second, .val (.long q3), .second, .val (.long q4), .second, .val (.int nn), .val (.int cn), .val (.long t1), .second, .val (.long t2), .second, .val (.long t3), .second, .val (.long t4), .second, .val (.ref b1), .val (.ref b32), .val (.ref b54), .val (.long t1), .second] [(.ref b32), (.ref b54)])) _
    refine XS.lload X73.here hx rfl (hb hby at_143) rfl ?_
    refine st79.trans ?_
    refine XS.lload X79.here hx rfl (hb hby at_148) rfl ?_
    show Steps p.tables e below (T79.setTop (mkF m 150 #[.val (.int p1), .val (.long q1), .second, .val (.long q2), .second, .val (.long q3), .second, .val (.long q4), .second, .val (.int nn), .val (.int cn), .val (.long t1), .second, .val (.long t2), .second, .val (.long t3), .second, .val (.long t4), .second, .val (.ref b1), .val (.ref b32), .val (.ref b54), .val (.long t1), .second] [(.long t2)])) _
    refine XS.lstore X79.here hx rfl (hb hby at_150) rfl (l' := #[.val (.int p1), .val (.long q1), .second, .val (.long q2), .second, .val (.long q3), .second, .val (.long q4), .second, .val (.int nn), .val (.int cn), .val (.long t1), .second, .val (.long t2), .second, .val (.long t3), .second, .val (.long t4), .second, .val (.ref b1), .val (.ref b32), .val (.ref b54), .val (.long t2), .second]) rfl ?_
    refine XS.iload X79.here hx rfl (hb hby at_152) rfl ?_
    refine XS.iconst X79.here hx rfl (hb hby at_154) ?_
    show Steps p.tables e below (T79.setTop (mkF m 155 #[.val (.int p1), .val (.long q1), .second, .val (.long q2), .second, .val (.long q3), .second, .val (.long q4), .second, .val (.int nn), .val (.int cn), .val (.long t1), .second, .val (.long t2), .second, .val (.long t3), .second, .val (.long t4), .second, .val (.ref b1), .val (.ref b32), .val (.ref b54), .val (.long t2), .second] [(.int (3 : Int32)), (.int nn)])) _
    refine XS.icmpYes X79.here hx rfl (pc0 := 155) (pc' := 171) rfl (hb hby at_155) rfl (tlt hc155).1 (by decide) (by decide) ?_
    refine XS.iload X79.here hx rfl (hb hby at_171) rfl ?_
    refine XS.iconst X79.here hx rfl (hb hby at_173) ?_
    show Steps p.tables e below (T79.setTop (mkF m 174 #[.val (.int p1), .val (.long q1), .second, .val (.long q2), .second, .val (.long q3), .second, .val (.long q4), .second, .val (.int nn), .val (.int cn), .val (.long t1), .second, .val (.long t2), .second, .val (.long t3), .second, .val (.long t4), .second, .val (.ref b1), .val (.ref b32), .val (.ref b54), .val (.long t2), .second] [(.int (4 : Int32)), (.int nn)])) _
    refine XS.icmpYes X79.here hx rfl (pc0 := 174) (pc' := 190) rfl (hb hby at_174) rfl (tlt hc174).1 (by decide) (by decide) ?_
    refine XS.aload X79.here hx rfl (hb hby at_190) rfl rfl ?_
    refine st81.trans ?_
    show Steps p.tables e below (T81.setTop (mkF m 195 #[.val (.int p1), .val (.long q1), .second, .val (.long q2), .second, .val (.long q3), .second, .val (.long q4), .second, .val (.int nn), .val (.int cn), .val (.long t1), .second, .val (.long t2), .second, .val (.long t3), .second, .val (.long t4), .second, .val (.ref b1), .val (.ref b32), .val (.ref b54), .val (.long t2), .second] [(.long ((fun j => if j = (own_md (0 + 1) n) then t2 else (fun j => if j = 0 then t1 else (fun _ => (-9223372036854775808 : Int64)) j) j) (own_md ((own_md ((own_md (0 + 1) n) + 1) n) + (n - 1)) n)))])) _
    refine XS.lload X81.here hx rfl (hb hby at_195) rfl ?_
    refine XS.lcmp X81.here hx rfl (hb hby at_197) rfl ?_
    refine XS.ifNo X81.here hx rfl (hb hby at_198) rfl ((if0 _ _).trans (teq ((lw_eq _ _).mpr ((own_read (f := (fun j => if j = 0 then t1 else (fun _ => (-9223372036854775808 : Int64)) j)) (own_mdlt hn1)) : ((fun j => if j = (own_md (0 + 1) n) then t2 else (fun j => if j = 0 then t1 else (fun _ => (-9223372036854775808 : Int64)) j) j) (own_md ((own_md ((own_md (0 + 1) n) + 1) n) + (n - 1)) n)) = t2))).2) ?_
    show Steps p.tables e below (T81.setTop (mkF m 201 #[.val (.int p1), .val (.long q1), .second, .val (.long q2), .second, .val (.long q3), .second, .val (.long q4), .second, .val (.int nn), .val (.int cn), .val (.long t1), .second, .val (.long t2), .second, .val (.long t3), .second, .val (.long t4), .second, .val (.ref b1), .val (.ref b32), .val (.ref b54), .val (.long t2), .second] [])) _
    refine XS.iconst X81.here hx rfl (hb hby at_201) ?_
    refine XS.goto X81.here hx rfl (pc0 := 202) (pc' := 206) rfl (hb hby at_202) (by decide) (by decide) ?_
    show Steps p.tables e below (T81.setTop (mkF m 206 #[.val (.int p1), .val (.long q1), .second, .val (.long q2), .second, .val (.long q3), .second, .val (.long q4), .second, .val (.int nn), .val (.int cn), .val (.long t1), .second, .val (.long t2), .second, .val (.long t3), .second, .val (.long t4), .second, .val (.ref b1), .val (.ref b32), .val (.ref b54), .val (.long t2), .second] [(.int (1 : Int32))])) _
    exact retN X81 hx (t := .boolean) Bd.returns (by simp) (hb hby at_206) hr
  · show QF h0 n0 _ T81.heap _
    rw [e81]
    exact ⟨rfl, N81⟩
set_option maxRecDepth 65536 in
set_option maxHeartbeats 40000000 in
theorem rm0_3 (l : Launch) (Z : State) (a0 : Array Value) (hw : ∀ d ∈ tables_1, d.before a0 Z = true) (ws : List Jvm.Cond) (p1 : Int32) (q1 : Int64) (q2 : Int64) (q3 : Int64) (q4 : Int64) (de : Addr) (kd : ClassId) (zd : Addr) (ld : Addr) (cn : Int32) (nn : Int32) (n : Nat) (h0 : Heap) (n0 : Nat) (Z0 : n0 ≤ h0.size) (O0 : Old Z n0 h0) (SDZ : Sta Z Z.heap "java/util/ArrayList" "DEFAULTCAPACITY_EMPTY_ELEMENTDATA" "[Ljava/lang/Object;" (.ref de)) (VDZ : Arv Z Z.heap de kd (.object "java/lang/Object") (0 : Int32) [] .null) (SZZ : Sta Z Z.heap "java/time/Duration" "ZERO" "Ljava/time/Duration;" (.ref zd)) (FZZ : Fld Z Z.heap zd "java/time/Duration" "seconds" "J" (.long (0 : Int64))) (FZN : Fld Z Z.heap zd "java/time/Duration" "nanos" "I" (.int (0 : Int32))) (SLZ : Sta Z Z.heap "com/example/steady_sluice/steadysluice/Rule" "LONGEST_PERIOD" "Ljava/time/Duration;" (.ref ld)) (FLZ : Fld Z Z.heap ld "java/time/Duration" "seconds" "J" (.long (9223372036 : Int64))) (hcnx : ((1 : Int32) + ((p1.toUInt32 >>> ((2 : Int32) &&& 31).toUInt32).toInt32 &&& (31 : Int32))) = cn) (hnnx : ((1 : Int32) + (p1 &&& (3 : Int32))) = nn) (hcn : ¬ (cn < (1 : Int32))) (hc1 : (0 : Int32) < cn) (hc2 : cn < (2147483647 : Int32)) (hn1 : 0 < n) (hn : n ≤ 16) (hcap : Int32.ofNat n < cn → n = 16) (hmin : ∀ (hh : Heap) (nn0 : Nat), nn0 ≤ hh.size → MetFree l nm_30 (head1 (Jvm.Cond.code nm_30 jdk_29_method_69_code 2 (some .int) :: []) rr0) (fun aa zU => aa = #[(.int cn), (.int (16 : Int32))] ∧ Z.Warmed39 zU.vm ∧ zU.heap = hh) (fun _ _ _ _ _ => True) (fun _ zU zo zU' => ∃ zv zL, zo = .returned zv ∧ QP (some (.int (Int32.ofNat n))) hh nn0 zv zU'.heap zL ∧ FrameEnd zU zo zU' zL rr0.cells rr0.slots)) (hc136 : ¬ (nn < (2 : Int32))) (hc155 : ¬ (nn < (3 : Int32))) (hc174 : nn < (4 : Int32)) :
    MetFree l x (head1 (Jvm.Cond.code x code maxLocals ret :: ws) room_1) (fun aa zU => aa = #[(.int p1), (.long q1), (.long q2), (.long q3), (.long q4)] ∧ Z.Warmed39 zU.vm ∧ zU.heap = h0) (fun _ _ _ _ _ => True) (fun _ zU zo zU' => ∃ zv zL, zo = .returned zv ∧ QF h0 n0 zv zU'.heap zL ∧ ReturnedEndW zU zo zU' zL room_1.cells room_1.slots) := by
  refine MetFree.of_bodySF (plainFor_of_name pn_com_example_steady_sluice_steadysluice_ScopeNewestAdmissionPinLaw) hisR ?_
  intro p e s m args below meth c s₁ Bd hml0 hP hK
  obtain ⟨rfl, hZ, hh⟩ := hP
  have hx := Bd.exec
  have hby := Bd.bytes
  have hml : c.maxLocals = 24 := hml0
  have hown : s.vm.findClass "com/example/steady_sluice/steadysluice/ScopeNewestAdmissionPinLaw" = some m.cls := findClass_of_methodNamed Bd.named
  have hnm := (name_of_methodNamed Bd.named Bd.method).1
  have X0 : Stand p l e room_1 s m #[(.int p1), (.long q1), (.long q2), (.long q3), (.long q4)] below meth c s₁ [] 0 0 := Stand.of_body Bd
  have e0 : s₁.heap = h0 := by rw [← hh, Bd.state]; rfl
  have N0 := Fr.nil n0
  have pre0 : ∀ t, Steps p.tables e below (s₁.setTop (mkF m 0 #[.val (.int p1), .val (.long q1), .second, .val (.long q2), .second, .val (.long q3), .second, .val (.long q4), .second, .unset, .unset, .unset, .unset, .unset, .unset, .unset, .unset, .unset, .unset, .unset, .unset, .unset, .unset, .unset] [])) t → Steps p.tables e below (s₁.setTop (entryFrame m #[(.int p1), (.long q1), (.long q2), (.long q3), (.long q4)] maxLocals)) t := fun t k => castTop (ef_0 m p1 q1 q2 q3 q4) k
  obtain ⟨t1, h_t1⟩ : ∃ z, (((q1 &&& (9223372036854775807 : Int64)).toUInt64 >>> ((3 : Int32) &&& 0x3f).toInt64.toUInt64).toInt64) = z := ⟨_, rfl⟩
  obtain ⟨t2, h_t2⟩ : ∃ z, ((t1 + (((q2 &&& (9223372036854775807 : Int64)).toUInt64 >>> ((3 : Int32) &&& 0x3f).toInt64.toUInt64).toInt64)) + (1 : Int64)) = z := ⟨_, rfl⟩
  obtain ⟨t3, h_t3⟩ : ∃ z, ((t2 + (((q3 &&& (9223372036854775807 : Int64)).toUInt64 >>> ((3 : Int32) &&& 0x3f).toInt64.toUInt64).toInt64)) + (1 : Int64)) = z := ⟨_, rfl⟩
  obtain ⟨t4, h_t4⟩ : ∃ z, ((t3 + (((q4 &&& (9223372036854775807 : Int64)).toUInt64 >>> ((3 : Int32) &&& 0x3f).toInt64.toUInt64).toInt64)) + (1 : Int64)) = z := ⟨_, rfl⟩
  obtain ⟨T1, h1, X1, e1, E1, A1, D1, -, st1⟩ := newO X0 hx hZ hown (ow hw 1 rfl) (ow hw 2 rfl) (ow hw 3 rfl) e0 (g := (mkF m 70 #[.val (.int p1), .val (.long q1), .second, .val (.long q2), .second, .val (.long q3), .second, .val (.long q4), .second, .val (.int nn), .val (.int cn), .val (.long t1), .second, .val (.long t2), .second, .val (.long t3), .second, .val (.long t4), .second, .unset, .unset, .unset, .unset, .unset] [])) rfl (hb hby at_70) (by decide) (by decide)
  obtain ⟨b1, g_b1⟩ : ∃ z, z = h0.size := ⟨_, rfl⟩
  rw [← g_b1] at A1 D1 st1
  have g0_b1 : n0 ≤ b1 := Nat.le_trans Z0 (Nat.le_of_eq g_b1.symm)
  have sz_b1 : h0.size ≤ b1 := Nat.le_trans (Nat.le_refl _) (Nat.le_of_eq g_b1.symm)
  have F_modCount_b1 : Fld Z h1 b1 "java/util/AbstractList" "modCount" "I" (.int (0 : Int32)) := D1 (Or.inl (ow hw 23 rfl)) (ty := .int) (by decide)
  have F_elementData_b1 : Fld Z h1 b1 "java/util/ArrayList" "elementData" "[Ljava/lang/Object;" .null := D1 (Or.inl (ow hw 26 rfl)) (ty := (.array (.object "java/lang/Object"))) (by decide)
  have F_size_b1 : Fld Z h1 b1 "java/util/ArrayList" "size" "I" (.int (0 : Int32)) := D1 (Or.inl (ow hw 94 rfl)) (ty := .int) (by decide)
  have c2 := O0.ext E1
  obtain ⟨_, _, ⟨T3, L3, k3, n3⟩, -, X3, ⟨Lc3, hQ3, l3, y3, z3⟩, st3⟩ := X1.specialBack hx (y := nm_1) rfl hown (mvT hZ (ow hw 4 rfl)) (mvT hZ (ow hw 5 rfl)) (mvT hZ (ow hw 6 rfl)) (by decide) (backOf (W := 1) (rm1 l Z a0 hw [] b1 de h1 n0 (Nat.le_trans Z0 E1.1) g0_b1 ⟨A1, F_modCount_b1, F_elementData_b1, F_size_b1⟩ (SDZ.ext c2.2)) hZ (ow hw 6 rfl) (ow hw 3 rfl) (by decide) (by decide)) (g := (mkF m 74 #[.val (.int p1), .val (.long q1), .second, .val (.long q2), .second, .val (.long q3), .second, .val (.long q4), .second, .val (.int nn), .val (.int cn), .val (.long t1), .second, .val (.long t2), .second, .val (.long t3), .second, .val (.long t4), .second, .unset, .unset, .unset, .unset, .unset] [(.ref b1), (.ref b1)])) rfl (by rw [hml]; rfl) (Steps.refl _) (a := b1) (argsL := []) (rest := [(.ref b1)]) (lenOf pd_0 rfl) rfl (by show 2 * 0 + _ ≤ _; exact Nat.le_of_eq rfl) (hb hby at_74) (fun _ _ => ⟨rfl, e1, (by decide : 1 + 0 ≤ _), (by decide : 3 + 0 ≤ _)⟩)
  dsimp only [Pt.U, Pt.locs, Pt.cells, Pt.slots] at X3 l3 y3 z3 st3 hQ3
  subst l3 y3 z3
  obtain ⟨rfl, N3q, K3, P03⟩ := hQ3
  have N3 := Fr.app N0 N3q
  obtain ⟨Eob4, F0ob4, F1ob4, F2ob4⟩ := id P03
  obtain ⟨T5, h5, X5, e5, E5, A5, D5, -, st5⟩ := newO X3 hx hZ hown (ow hw 27 rfl) (ow hw 28 rfl) (ow hw 29 rfl) rfl (g := (mkF m 81 #[.val (.int p1), .val (.long q1), .second, .val (.long q2), .second, .val (.long q3), .second, .val (.long q4), .second, .val (.int nn), .val (.int cn), .val (.long t1), .second, .val (.long t2), .second, .val (.long t3), .second, .val (.long t4), .second, .val (.ref b1), .unset, .unset, .unset, .unset] [(.ref b1)])) rfl (hb hby at_81) (by decide) (by decide)
  obtain ⟨b5, g_b5⟩ : ∃ z, z = T3.heap.size := ⟨_, rfl⟩
  rw [← g_b5] at A5 D5 st5
  have g0_b5 : n0 ≤ b5 := Nat.le_trans (Nat.le_trans (Nat.le_trans Z0 E1.1) K3.1) (Nat.le_of_eq g_b5.symm)
  have sz_b5 : h0.size ≤ b5 := Nat.le_trans (Nat.le_trans (Nat.le_trans (Nat.le_refl _) E1.1) K3.1) (Nat.le_of_eq g_b5.symm)
  have ne_b1_b5 : b1 ≠ b5 := Nat.ne_of_lt (Nat.lt_of_lt_of_le Eob4.lt (Nat.le_of_eq g_b5.symm))
  have F_count_b5 : Fld Z h5 b5 "com/example/steady_sluice/steadysluice/Rule" "count" "I" (.int (0 : Int32)) := D5 (Or.inr (ow hw 83 rfl)) (ty := .int) (by decide)
  have F_period_b5 : Fld Z h5 b5 "com/example/steady_sluice/steadysluice/Rule" "period" "Ljava/time/Duration;" .null := D5 (Or.inr (ow hw 85 rfl)) (ty := (.object "java/time/Duration")) (by decide)
  obtain ⟨_, _, ⟨T6, L6, k6, n6⟩, -, X6, ⟨Lc6, hQ6, l6, y6, z6⟩, st6⟩ := Jvm.LawKit.callS X5 hx (y := nm_5) hown (mvT hZ (ow hw 30 rfl)) (mvT hZ (ow hw 31 rfl)) (mvT hZ (ow hw 32 rfl)) (mvT hZ (ow hw 33 rfl)) (by decide) (backOf (W := 4) (rm5 l Z a0 hw [] h5 n0 (Nat.le_trans (Nat.le_trans (Nat.le_trans Z0 E1.1) K3.1) E5.1)) hZ (ow hw 33 rfl) (ow hw 32 rfl) (by decide) (by decide)) (g := (mkF m 88 #[.val (.int p1), .val (.long q1), .second, .val (.long q2), .second, .val (.long q3), .second, .val (.long q4), .second, .val (.int nn), .val (.int cn), .val (.long t1), .second, .val (.long t2), .second, .val (.long t3), .second, .val (.long t4), .second, .val (.ref b1), .unset, .unset, .unset, .unset] [(.long (1 : Int64)), (.int cn), (.ref b5), (.ref b5), (.ref b1)])) rfl (by rw [hml]; rfl) (argsL := [(.long (1 : Int64))]) (rest := [(.int cn), (.ref b5), (.ref b5), (.ref b1)]) (lenOf pd_1 rfl) rfl (by show 2 * 0 + _ ≤ _; exact Nat.le_of_eq rfl) (hb hby at_88) (fun _ _ => ⟨rfl, e5, (by decide : 2 + 1 ≤ _), (by decide : 5 + 2 ≤ _)⟩)
  dsimp only [Pt.U, Pt.locs, Pt.cells, Pt.slots] at X6 l6 y6 z6 st6 hQ6
  subst l6 y6 z6
  obtain ⟨bb6, rfl, N6q, K6, g0_bb6, szq6, P06⟩ := hQ6
  have N6 := Fr.app N3 N6q
  have c7 := Eob4.ext E5
  have ne_b1_bb6 : b1 ≠ bb6 := Nat.ne_of_lt (Nat.lt_of_lt_of_le c7.lt szq6)
  have ne_b5_bb6 : b5 ≠ bb6 := Nat.ne_of_lt (Nat.lt_of_lt_of_le A5.lt szq6)
  have sz_bb6 : h0.size ≤ bb6 := Nat.le_trans (Nat.le_trans (Nat.le_trans (Nat.le_trans (Nat.le_refl _) E1.1) K3.1) E5.1) szq6
  obtain ⟨Eob8, F0ob8, F1ob8⟩ := id P06
  have c9 := c2.keep K3 (allS g0_b1 all0)
  have c10 := c9.ext E5
  have c11 := c10.keep K6 all0
  have c12 := A5.keep K6
  have c13 := F_count_b5.keep K6 nin0
  have c14 := F_period_b5.keep K6 nin0
  obtain ⟨_, _, ⟨T15, L15, k15, n15⟩, -, X15, hS, hsz, ⟨Lc15, hQ15, l15, y15, z15⟩, st15⟩ := X6.specialBackS hx (y := nm_8) rfl hown (mvT hZ (ow hw 49 rfl)) (mvT hZ (ow hw 50 rfl)) (mvT hZ (ow hw 51 rfl)) (by decide) (backOfS (W := 2) (rm8 l Z a0 hw [] b5 cn bb6 zd ld T6.heap n0 (Nat.le_trans (Nat.le_trans (Nat.le_trans (Nat.le_trans Z0 E1.1) K3.1) E5.1) K6.1) g0_b5 ⟨c12, c13, c14⟩ ⟨Eob8, F0ob8, F1ob8⟩ hcn (SZZ.ext c11.2) (FZZ.ext c11.2) (FZN.ext c11.2) (SLZ.ext c11.2) (FLZ.ext c11.2)) hZ (ow hw 51 rfl) (ow hw 29 rfl) (by decide) (by decide)) (g := (mkF m 91 #[.val (.int p1), .val (.long q1), .second, .val (.long q2), .second, .val (.long q3), .second, .val (.long q4), .second, .val (.int nn), .val (.int cn), .val (.long t1), .second, .val (.long t2), .second, .val (.long t3), .second, .val (.long t4), .second, .val (.ref b1), .unset, .unset, .unset, .unset] [(.ref bb6), (.int cn), (.ref b5), (.ref b5), (.ref b1)])) rfl (by rw [hml]; rfl) (Steps.refl _) (a := b5) (argsL := [(.int cn), (.ref bb6)]) (rest := [(.ref b5), (.ref b1)]) (lenOf pd_4 rfl) rfl (by show 2 * 0 + _ ≤ _; exact Nat.le_of_eq rfl) (hb hby at_91) (fun _ _ => ⟨rfl, rfl, (by decide : 3 + 2 ≤ _), (by decide : 7 + 28 ≤ _)⟩)
  dsimp only [Pt.U, Pt.locs, Pt.cells, Pt.slots] at X15 l15 y15 z15 st15 hQ15 hS hsz
  subst l15 y15 z15
  obtain ⟨rfl, N15q, K15, P015⟩ := hQ15
  have N15 := Fr.app N6 N15q
  have hZ1 : Z.Warmed39 (s.setVm T15.vm).vm := State.Warmed39.trans hZ hS.1
  have hown1 : (s.setVm T15.vm).vm.findClass "com/example/steady_sluice/steadysluice/ScopeNewestAdmissionPinLaw" = some m.cls := (hS.1.alike.findClass _ _).trans hown
  obtain ⟨Eob16, F0ob16, F1ob16⟩ := id P015
  have c17 := c11.keep K15 (allS g0_b5 all0)
  have c18 := c7.keep K6
  have c19 := c18.keep K15
  have c20 := F0ob4.ext E5
  have c21 := c20.keep K6 nin0
  have c22 := c21.keep K15 (ninS ne_b1_b5 nin0)
  have c23 := F1ob4.ext E5
  have c24 := c23.keep K6 nin0
  have c25 := c24.keep K15 (ninS ne_b1_b5 nin0)
  have c26 := F2ob4.ext E5
  have c27 := c26.keep K6 nin0
  have c28 := c27.keep K15 (ninS ne_b1_b5 nin0)
  obtain ⟨cq29, kq29, q29a, q29b, q29c⟩ := isOf hZ1 rfl c19
  obtain ⟨_, _, ⟨T29, L29, k29, n29⟩, -, X29, ⟨Lc29, hQ29, l29, y29, z29⟩, st29⟩ := X15.virtualBack hx (y := nm_13) (z := nm_13) hown1 (mvT hZ1 (ow hw 86 rfl)) (mvT hZ1 (ow hw 87 rfl)) (notFace_of_selects (args := #[]) (mvT hZ1 (ow hw 89 rfl))) (mvT hZ1 (ow hw 89 rfl)) (mvT hZ1 (ow hw 88 rfl)) (by decide) (backOf (W := 0) (rm13 l Z a0 hw [] b1 b5 de kd T15.heap n0 (Nat.le_trans (Nat.le_trans (Nat.le_trans (Nat.le_trans (Nat.le_trans Z0 E1.1) K3.1) E5.1) K6.1) K15.1) g0_b1 ⟨c19, c22, c25, c28⟩ (VDZ.ext c17.2) (SDZ.ext c17.2) Eob16) hZ1 (ow hw 90 rfl) (ow hw 3 rfl) (by decide) (by decide)) q29a q29c (g := (mkF m 94 #[.val (.int p1), .val (.long q1), .second, .val (.long q2), .second, .val (.long q3), .second, .val (.long q4), .second, .val (.int nn), .val (.int cn), .val (.long t1), .second, .val (.long t2), .second, .val (.long t3), .second, .val (.long t4), .second, .val (.ref b1), .unset, .unset, .unset, .unset] [(.ref b5), (.ref b1)])) rfl (by rw [hml]; rfl) (Steps.refl _) (argsL := [(.ref b5)]) (rest := []) (lenOf pd_8 rfl) rfl (by show 2 * 0 + _ ≤ _; exact Nat.le_of_eq rfl) (hb hby at_94) (fun _ _ => ⟨rfl, rfl, (by decide : 5 + 1 ≤ _), (by decide : 35 + 10 ≤ _)⟩)
  dsimp only [Pt.U, Pt.locs, Pt.cells, Pt.slots] at X29 l29 y29 z29 st29 hQ29
  subst l29 y29 z29
  obtain ⟨rfl, N29q, K29, bb29, kk29, g0_bb29, szq29, P029, VV29⟩ := hQ29
  have N29 := Fr.app N15 N29q
  have ne_b1_bb29 : b1 ≠ bb29 := Nat.ne_of_lt (Nat.lt_of_lt_of_le c19.lt szq29)
  have ne_b5_bb29 : b5 ≠ bb29 := Nat.ne_of_lt (Nat.lt_of_lt_of_le Eob16.lt szq29)
  have c30 := Eob8.keep K15
  have ne_bb6_bb29 : bb6 ≠ bb29 := Nat.ne_of_lt (Nat.lt_of_lt_of_le c30.lt szq29)
  have sz_bb29 : h0.size ≤ bb29 := Nat.le_trans (Nat.le_trans (Nat.le_trans (Nat.le_trans (Nat.le_trans (Nat.le_trans (Nat.le_refl _) E1.1) K3.1) E5.1) K6.1) K15.1) szq29
  obtain ⟨Eob31, F0ob31, F1ob31, F2ob31⟩ := id P029
  obtain ⟨T32, h32, X32, e32, E32, A32, D32, -, st32⟩ := newO X29 hx hZ1 hown1 (ow hw 117 rfl) (ow hw 118 rfl) (ow hw 119 rfl) rfl (g := (mkF m 98 #[.val (.int p1), .val (.long q1), .second, .val (.long q2), .second, .val (.long q3), .second, .val (.long q4), .second, .val (.int nn), .val (.int cn), .val (.long t1), .second, .val (.long t2), .second, .val (.long t3), .second, .val (.long t4), .second, .val (.ref b1), .unset, .unset, .unset, .unset] [])) rfl (hb hby at_98) (by decide) (by decide)
  obtain ⟨b32, g_b32⟩ : ∃ z, z = T29.heap.size := ⟨_, rfl⟩
  rw [← g_b32] at A32 D32 st32
  have g0_b32 : n0 ≤ b32 := Nat.le_trans (Nat.le_trans (Nat.le_trans (Nat.le_trans (Nat.le_trans (Nat.le_trans (Nat.le_trans Z0 E1.1) K3.1) E5.1) K6.1) K15.1) K29.1) (Nat.le_of_eq g_b32.symm)
  have sz_b32 : h0.size ≤ b32 := Nat.le_trans (Nat.le_trans (Nat.le_trans (Nat.le_trans (Nat.le_trans (Nat.le_trans (Nat.le_trans (Nat.le_refl _) E1.1) K3.1) E5.1) K6.1) K15.1) K29.1) (Nat.le_of_eq g_b32.symm)
  have ne_b1_b32 : b1 ≠ b32 := Nat.ne_of_lt (Nat.lt_of_lt_of_le Eob31.lt (Nat.le_of_eq g_b32.symm))
  have c33 := Eob16.keep K29
  have ne_b5_b32 : b5 ≠ b32 := Nat.ne_of_lt (Nat.lt_of_lt_of_le c33.lt (Nat.le_of_eq g_b32.symm))
  have c34 := c30.keep K29
  have ne_bb6_b32 : bb6 ≠ b32 := Nat.ne_of_lt (Nat.lt_of_lt_of_le c34.lt (Nat.le_of_eq g_b32.symm))
  have ne_bb29_b32 : bb29 ≠ b32 := Nat.ne_of_lt (Nat.lt_of_lt_of_le VV29.lt (Nat.le_of_eq g_b32.symm))
  have F_counts_b32 : Fld Z h32 b32 "com/example/steady_sluice/steadysluice/RuleSet" "counts" "[I" .null := D32 (Or.inr (ow hw 135 rfl)) (ty := (.array .int)) (by decide)
  have F_periodNanos_b32 : Fld Z h32 b32 "com/example/steady_sluice/steadysluice/RuleSet" "periodNanos" "[J" .null := D32 (Or.inr (ow hw 138 rfl)) (ty := (.array .long)) (by decide)
  have F_largestCount_b32 : Fld Z h32 b32 "com/example/steady_sluice/steadysluice/RuleSet" "largestCount" "I" (.int (0 : Int32)) := D32 (Or.inr (ow hw 194 rfl)) (ty := .int) (by decide)
  have F_smallestCount_b32 : Fld Z h32 b32 "com/example/steady_sluice/steadysluice/RuleSet" "smallestCount" "I" (.int (0 : Int32)) := D32 (Or.inr (ow hw 196 rfl)) (ty := .int) (by decide)
  have F_longestPeriodNanos_b32 : Fld Z h32 b32 "com/example/steady_sluice/steadysluice/RuleSet" "longestPeriodNanos" "J" (.long (0 : Int64)) := D32 (Or.inr (ow hw 198 rfl)) (ty := .long) (by decide)
  have c35 := Eob31.ext E32
  have c36 := F0ob31.ext E32
  have c37 := F1ob31.ext E32
  have c38 := F2ob31.ext E32
  have c39 := VV29.ext E32
  have c40 := c33.ext E32
  have c41 := F0ob16.keep K29 (ninS (Ne.symm ne_b1_b5) nin0)
  have c42 := c41.ext E32
  have c43 := F1ob16.keep K29 (ninS (Ne.symm ne_b1_b5) nin0)
  have c44 := c43.ext E32
  have c45 := c34.ext E32
  have c46 := F0ob8.keep K15 (ninS (Ne.symm ne_b5_bb6) nin0)
  have c47 := c46.keep K29 (ninS (Ne.symm ne_b1_bb6) nin0)
  have c48 := c47.ext E32
  have c49 := F1ob8.keep K15 (ninS (Ne.symm ne_b5_bb6) nin0)
  have c50 := c49.keep K29 (ninS (Ne.symm ne_b1_bb6) nin0)
  have c51 := c50.ext E32
  obtain ⟨_, _, ⟨T52, L52, k52, n52⟩, -, X52, ⟨Lc52, hQ52, l52, y52, z52⟩, st52⟩ := X32.specialBack hx (y := nm_18) rfl hown1 (mvT hZ1 (ow hw 120 rfl)) (mvT hZ1 (ow hw 121 rfl)) (mvT hZ1 (ow hw 122 rfl)) (by decide) (backOf (W := 1) (rm18 l Z a0 hw [] b32 b1 bb29 kk29 b5 bb6 ((0 : Int32) + (1 : Int32)) cn h32 n0 (Nat.le_trans (Nat.le_trans (Nat.le_trans (Nat.le_trans (Nat.le_trans (Nat.le_trans (Nat.le_trans Z0 E1.1) K3.1) E5.1) K6.1) K15.1) K29.1) E32.1) g0_b32 ⟨A32, F_counts_b32, F_periodNanos_b32, F_largestCount_b32, F_smallestCount_b32, F_longestPeriodNanos_b32⟩ ⟨c35, c36, c37, c38⟩ c39 ⟨c40, c42, c44⟩ ⟨c45, c48, c51⟩ hc1 hc2) hZ1 (ow hw 122 rfl) (ow hw 119 rfl) (by decide) (by decide)) (g := (mkF m 104 #[.val (.int p1), .val (.long q1), .second, .val (.long q2), .second, .val (.long q3), .second, .val (.long q4), .second, .val (.int nn), .val (.int cn), .val (.long t1), .second, .val (.long t2), .second, .val (.long t3), .second, .val (.long t4), .second, .val (.ref b1), .unset, .unset, .unset, .unset] [(.ref b1), (.ref b32), (.ref b32)])) rfl (by rw [hml]; rfl) (Steps.refl _) (a := b32) (argsL := [(.ref b1)]) (rest := [(.ref b32)]) (lenOf pd_13 rfl) rfl (by show 2 * 0 + _ ≤ _; exact Nat.le_of_eq rfl) (hb hby at_104) (fun _ _ => ⟨rfl, e32, (by decide : 7 + 2 ≤ _), (by decide : 50 + 2 ≤ _)⟩)
  dsimp only [Pt.U, Pt.locs, Pt.cells, Pt.slots] at X52 l52 y52 z52 st52 hQ52
  subst l52 y52 z52
  obtain ⟨rfl, N52q, K52, c152, c252, P052⟩ := hQ52
  have N52 := Fr.app N29 N52q
  obtain ⟨Eob53, F0ob53, F1ob53, F2ob53, F3ob53, F4ob53⟩ := id P052
  obtain ⟨T54, h54, X54, e54, E54, A54, D54, -, st54⟩ := newO X52 hx hZ1 hown1 (ow hw 199 rfl) (ow hw 200 rfl) (ow hw 201 rfl) rfl (g := (mkF m 109 #[.val (.int p1), .val (.long q1), .second, .val (.long q2), .second, .val (.long q3), .second, .val (.long q4), .second, .val (.int nn), .val (.int cn), .val (.long t1), .second, .val (.long t2), .second, .val (.long t3), .second, .val (.long t4), .second, .val (.ref b1), .val (.ref b32), .unset, .unset, .unset] [])) rfl (hb hby at_109) (by decide) (by decide)
  obtain ⟨b54, g_b54⟩ : ∃ z, z = T52.heap.size := ⟨_, rfl⟩
  rw [← g_b54] at A54 D54 st54
  have g0_b54 : n0 ≤ b54 := Nat.le_trans (Nat.le_trans (Nat.le_trans (Nat.le_trans (Nat.le_trans (Nat.le_trans (Nat.le_trans (Nat.le_trans (Nat.le_trans Z0 E1.1) K3.1) E5.1) K6.1) K15.1) K29.1) E32.1) K52.1) (Nat.le_of_eq g_b54.symm)
  have sz_b54 : h0.size ≤ b54 := Nat.le_trans (Nat.le_trans (Nat.le_trans (Nat.le_trans (Nat.le_trans (Nat.le_trans (Nat.le_trans (Nat.le_trans (Nat.le_trans (Nat.le_refl _) E1.1) K3.1) E5.1) K6.1) K15.1) K29.1) E32.1) K52.1) (Nat.le_of_eq g_b54.symm)
  have c55 := c35.keep K52
  have ne_b1_b54 : b1 ≠ b54 := Nat.ne_of_lt (Nat.lt_of_lt_of_le c55.lt (Nat.le_of_eq g_b54.symm))
  have c56 := c40.keep K52
  have ne_b5_b54 : b5 ≠ b54 := Nat.ne_of_lt (Nat.lt_of_lt_of_le c56.lt (Nat.le_of_eq g_b54.symm))
  have c57 := c45.keep K52
  have ne_bb6_b54 : bb6 ≠ b54 := Nat.ne_of_lt (Nat.lt_of_lt_of_le c57.lt (Nat.le_of_eq g_b54.symm))
  have c58 := c39.keep K52 (ninS ne_bb29_b32 nin0)
  have ne_bb29_b54 : bb29 ≠ b54 := Nat.ne_of_lt (Nat.lt_of_lt_of_le c58.lt (Nat.le_of_eq g_b54.symm))
  have ne_b32_b54 : b32 ≠ b54 := Nat.ne_of_lt (Nat.lt_of_lt_of_le Eob53.lt (Nat.le_of_eq g_b54.symm))
  have F_times_b54 : Fld Z h54 b54 "com/example/steady_sluice/steadysluice/Scope" "times" "[J" .null := D54 (Or.inl (ow hw 213 rfl)) (ty := (.array .long)) (by decide)
  have F_head_b54 : Fld Z h54 b54 "com/example/steady_sluice/steadysluice/Scope" "head" "I" (.int (0 : Int32)) := D54 (Or.inl (ow hw 225 rfl)) (ty := .int) (by decide)
  have c59 := Eob53.ext E54
  have c60 := F2ob53.ext E54
  obtain ⟨_, _, ⟨T61, L61, k61, n61⟩, -, X61, ⟨Lc61, hQ61, l61, y61, z61⟩, st61⟩ := X54.specialBack hx (y := nm_32) rfl hown1 (mvT hZ1 (ow hw 202 rfl)) (mvT hZ1 (ow hw 203 rfl)) (mvT hZ1 (ow hw 204 rfl)) (by decide) (backOf (W := 1) (rm32 l Z a0 hw [] b54 b32 cn n h54 n0 (Nat.le_trans (Nat.le_trans (Nat.le_trans (Nat.le_trans (Nat.le_trans (Nat.le_trans (Nat.le_trans (Nat.le_trans (Nat.le_trans Z0 E1.1) K3.1) E5.1) K6.1) K15.1) K29.1) E32.1) K52.1) E54.1) g0_b54 ⟨A54, F_times_b54, F_head_b54⟩ hn (hmin h54 n0 (Nat.le_trans (Nat.le_trans (Nat.le_trans (Nat.le_trans (Nat.le_trans (Nat.le_trans (Nat.le_trans (Nat.le_trans (Nat.le_trans Z0 E1.1) K3.1) E5.1) K6.1) K15.1) K29.1) E32.1) K52.1) E54.1)) c59 c60) hZ1 (ow hw 204 rfl) (ow hw 201 rfl) (by decide) (by decide)) (g := (mkF m 115 #[.val (.int p1), .val (.long q1), .second, .val (.long q2), .second, .val (.long q3), .second, .val (.long q4), .second, .val (.int nn), .val (.int cn), .val (.long t1), .second, .val (.long t2), .second, .val (.long t3), .second, .val (.long t4), .second, .val (.ref b1), .val (.ref b32), .unset, .unset, .unset] [(.ref b32), (.ref b54), (.ref b54)])) rfl (by rw [hml]; rfl) (Steps.refl _) (a := b54) (argsL := [(.ref b32)]) (rest := [(.ref b54)]) (lenOf pd_21 rfl) rfl (by show 2 * 0 + _ ≤ _; exact Nat.le_of_eq rfl) (hb hby at_115) (fun _ _ => ⟨rfl, e54, (by decide : 10 + 1 ≤ _), (by decide : 54 + 16 ≤ _)⟩)
  dsimp only [Pt.U, Pt.locs, Pt.cells, Pt.slots] at X61 l61 y61 z61 st61 hQ61
  subst l61 y61 z61
  obtain ⟨rfl, N61q, K61, ar61, g0_ar61, szq61, P061, FF61⟩ := hQ61
  have N61 := Fr.app N52 N61q
  have c62 := c55.ext E54
  have ne_b1_ar61 : b1 ≠ ar61 := Nat.ne_of_lt (Nat.lt_of_lt_of_le c62.lt szq61)
  have c63 := c56.ext E54
  have ne_b5_ar61 : b5 ≠ ar61 := Nat.ne_of_lt (Nat.lt_of_lt_of_le c63.lt szq61)
  have c64 := c57.ext E54
  have ne_bb6_ar61 : bb6 ≠ ar61 := Nat.ne_of_lt (Nat.lt_of_lt_of_le c64.lt szq61)
  have c65 := c58.ext E54
  have ne_bb29_ar61 : bb29 ≠ ar61 := Nat.ne_of_lt (Nat.lt_of_lt_of_le c65.lt szq61)
  have ne_b32_ar61 : b32 ≠ ar61 := Nat.ne_of_lt (Nat.lt_of_lt_of_le c59.lt szq61)
  have ne_b54_ar61 : b54 ≠ ar61 := Nat.ne_of_lt (Nat.lt_of_lt_of_le A54.lt szq61)
  have sz_ar61 : h0.size ≤ ar61 := Nat.le_trans (Nat.le_trans (Nat.le_trans (Nat.le_trans (Nat.le_trans (Nat.le_trans (Nat.le_trans (Nat.le_trans (Nat.le_trans (Nat.le_trans (Nat.le_refl _) E1.1) K3.1) E5.1) K6.1) K15.1) K29.1) E32.1) K52.1) E54.1) szq61
  obtain ⟨Eob66, F0ob66, F1ob66⟩ := id P061
  have c67 := c59.keep K61
  have c68 := c60.keep K61 (ninS ne_b32_b54 nin0)
  have c69 := F3ob53.ext E54
  have c70 := c69.keep K61 (ninS ne_b32_b54 nin0)
  have c71 := F4ob53.ext E54
  have c72 := c71.keep K61 (ninS ne_b32_b54 nin0)
  obtain ⟨cq73, kq73, q73a, q73b, q73c⟩ := isOf hZ1 rfl Eob66
  obtain ⟨_, _, ⟨T73, L73, k73, n73⟩, -, X73, ⟨Lc73, hQ73, l73, y73, z73⟩, st73⟩ := X61.virtualBack hx (y := nm_35) (z := nm_35) hown1 (mvT hZ1 (ow hw 219 rfl)) (mvT hZ1 (ow hw 220 rfl)) (notFace_of_selects (args := #[]) (mvT hZ1 (ow hw 222 rfl))) (mvT hZ1 (ow hw 222 rfl)) (mvT hZ1 (ow hw 221 rfl)) (by decide) (backOf (W := 0) (rm35 l Z a0 hw [] b54 b32 ar61 n (fun _ => (-9223372036854775808 : Int64)) 0 cn t1 T61.heap n0 (Nat.le_trans (Nat.le_trans (Nat.le_trans (Nat.le_trans (Nat.le_trans (Nat.le_trans (Nat.le_trans (Nat.le_trans (Nat.le_trans (Nat.le_trans Z0 E1.1) K3.1) E5.1) K6.1) K15.1) K29.1) E32.1) K52.1) E54.1) K61.1) g0_b54 g0_ar61 hn hn1 ⟨Eob66, F0ob66, F1ob66⟩ FF61 c67 c68 c70 c72 (fun q => by have e := hcap q; subst e; rfl)) hZ1 (ow hw 223 rfl) (ow hw 201 rfl) (by decide) (by decide)) q73a q73c (g := (mkF m 126 #[.val (.int p1), .val (.long q1), .second, .val (.long q2), .second, .val (.long q3), .second, .val (.long q4), .second, .val (.int nn), .val (.int cn), .val (.long t1), .second, .val (.long t2), .second, .val (.long t3), .second, .val (.long t4), .second, .val (.ref b1), .val (.ref b32), .val (.ref b54), .unset, .unset] [(.long t1), (.ref b32), (.ref b54)])) rfl (by rw [hml]; rfl) (Steps.refl _) (argsL := [(.ref b32), (.long t1)]) (rest := []) (lenOf pd_23 rfl) rfl (by show 2 * 0 + _ ≤ _; exact Nat.le_of_eq rfl) (hb hby at_126) (fun _ _ => ⟨rfl, rfl, (by decide : 11 + 0 ≤ _), (by decide : 70 + 0 ≤ _)⟩)
  dsimp only [Pt.U, Pt.locs, Pt.cells, Pt.slots] at X73 l73 y73 z73 st73 hQ73
  subst l73 y73 z73
  obtain ⟨rfl, N73q, K73, P073, FF73⟩ := hQ73
  have N73 := Fr.app N61 N73q
  obtain ⟨Eob74, F0ob74, F1ob74⟩ := id P073
  have c75 := c67.keep K73
  have c76 := c68.keep K73 (ninS ne_b32_b54 (ninS ne_b32_ar61 nin0))
  have c77 := c70.keep K73 (ninS ne_b32_b54 (ninS ne_b32_ar61 nin0))
  have c78 := c72.keep K73 (ninS ne_b32_b54 (ninS ne_b32_ar61 nin0))
  obtain ⟨cq79, kq79, q79a, q79b, q79c⟩ := isOf hZ1 rfl Eob74
  obtain ⟨_, _, ⟨T79, L79, k79, n79⟩, -, X79, ⟨Lc79, hQ79, l79, y79, z79⟩, st79⟩ := X73.virtualBack hx (y := nm_35) (z := nm_35) hown1 (mvT hZ1 (ow hw 219 rfl)) (mvT hZ1 (ow hw 220 rfl)) (notFace_of_selects (args := #[]) (mvT hZ1 (ow hw 222 rfl))) (mvT hZ1 (ow hw 222 rfl)) (mvT hZ1 (ow hw 221 rfl)) (by decide) (backOf (W := 0) (rm35 l Z a0 hw [] b54 b32 ar61 n (fun j => if j = 0 then t1 else (fun _ => (-9223372036854775808 : Int64)) j) (own_md (0 + 1) n) cn t2 T73.heap n0 (Nat.le_trans (Nat.le_trans (Nat.le_trans (Nat.le_trans (Nat.le_trans (Nat.le_trans (Nat.le_trans (Nat.le_trans (Nat.le_trans (Nat.le_trans (Nat.le_trans Z0 E1.1) K3.1) E5.1) K6.1) K15.1) K29.1) E32.1) K52.1) E54.1) K61.1) K73.1) g0_b54 g0_ar61 hn (own_mdlt hn1) ⟨Eob74, F0ob74, F1ob74⟩ FF73 c75 c76 c77 c78 (fun q => by have e := hcap q; subst e; rfl)) hZ1 (ow hw 223 rfl) (ow hw 201 rfl) (by decide) (by decide)) q79a q79c (g := (mkF m 145 #[.val (.int p1), .val (.long q1), .second, .val (.long q2), .second, .val (.long q3), .second, .val (.long q4), .second, .val (.int nn), .val (.int cn), .val (.long t1), .second, .val (.long t2), .second, .val (.long t3), .second, .val (.long t4), .second, .val (.ref b1), .val (.ref b32), .val (.ref b54), .val (.long t1), .second] [(.long t2), (.ref b32), (.ref b54)])) rfl (by rw [hml]; rfl) (Steps.refl _) (argsL := [(.ref b32), (.long t2)]) (rest := []) (lenOf pd_23 rfl) rfl (by show 2 * 0 + _ ≤ _; exact Nat.le_of_eq rfl) (hb hby at_145) (fun _ _ => ⟨rfl, rfl, (by decide : 11 + 0 ≤ _), (by decide : 70 + 0 ≤ _)⟩)
  dsimp only [Pt.U, Pt.locs, Pt.cells, Pt.slots] at X79 l79 y79 z79 st79 hQ79
  subst l79 y79 z79
  obtain ⟨rfl, N79q, K79, P079, FF79⟩ := hQ79
  have N79 := Fr.app N73 N79q
  obtain ⟨Eob80, F0ob80, F1ob80⟩ := id P079
  have c81 := c75.keep K79
  have c82 := c76.keep K79 (ninS ne_b32_b54 (ninS ne_b32_ar61 nin0))
  have c83 := c77.keep K79 (ninS ne_b32_b54 (ninS ne_b32_ar61 nin0))
  have c84 := c78.keep K79 (ninS ne_b32_b54 (ninS ne_b32_ar61 nin0))
  obtain ⟨cq85, kq85, q85a, q85b, q85c⟩ := isOf hZ1 rfl Eob80
  obtain ⟨_, _, ⟨T85, L85, k85, n85⟩, -, X85, ⟨Lc85, hQ85, l85, y85, z85⟩, st85⟩ := X79.virtualBack hx (y := nm_35) (z := nm_35) hown1 (mvT hZ1 (ow hw 219 rfl)) (mvT hZ1 (ow hw 220 rfl)) (notFace_of_selects (args := #[]) (mvT hZ1 (ow hw 222 rfl))) (mvT hZ1 (ow hw 222 rfl)) (mvT hZ1 (ow hw 221 rfl)) (by decide) (backOf (W := 0) (rm35 l Z a0 hw [] b54 b32 ar61 n (fun j => if j = (own_md (0 + 1) n) then t2 else (fun j => if j = 0 then t1 else (fun _ => (-9223372036854775808 : Int64)) j) j) (own_md ((own_md (0 + 1) n) + 1) n) cn t3 T79.heap n0 (Nat.le_trans (Nat.le_trans (Nat.le_trans (Nat.le_trans (Nat.le_trans (Nat.le_trans (Nat.le_trans (Nat.le_trans (Nat.le_trans (Nat.le_trans (Nat.le_trans (Nat.le_trans Z0 E1.1) K3.1) E5.1) K6.1) K15.1) K29.1) E32.1) K52.1) E54.1) K61.1) K73.1) K79.1) g0_b54 g0_ar61 hn (own_mdlt (own_mdlt hn1)) ⟨Eob80, F0ob80, F1ob80⟩ FF79 c81 c82 c83 c84 (fun q => by have e := hcap q; subst e; rfl)) hZ1 (ow hw 223 rfl) (ow hw 201 rfl) (by decide) (by decide)) q85a q85c (g := (mkF m 164 #[.val (.int p1), .val (.long q1), .second, .val (.long q2), .second, .val (.long q3), .second, .val (.long q4), .second, .val (.int nn), .val (.int cn), .val (.long t1), .second, .val (.long t2), .second, .val (.long t3), .second, .val (.long t4), .second, .val (.ref b1), .val (.ref b32), .val (.ref b54), .val (.long t2), .second] [(.long t3), (.ref b32), (.ref b54)])) rfl (by rw [hml]; rfl) (Steps.refl _) (argsL := [(.ref b32), (.long t3)]) (rest := []) (lenOf pd_23 rfl) rfl (by show 2 * 0 + _ ≤ _; exact Nat.le_of_eq rfl) (hb hby at_164) (fun _ _ => ⟨rfl, rfl, (by decide : 11 + 0 ≤ _), (by decide : 70 + 0 ≤ _)⟩)
  dsimp only [Pt.U, Pt.locs, Pt.cells, Pt.slots] at X85 l85 y85 z85 st85 hQ85
  subst l85 y85 z85
  obtain ⟨rfl, N85q, K85, P085, FF85⟩ := hQ85
  have N85 := Fr.app N79 N85q
  obtain ⟨Eob86, F0ob86, F1ob86⟩ := id P085
  obtain ⟨cq87, kq87, q87a, q87b, q87c⟩ := isOf hZ1 rfl Eob86
  obtain ⟨_, _, ⟨T87, L87, k87, n87⟩, -, X87, ⟨Lc87, hQ87, l87, y87, z87⟩, st87⟩ := X85.virtualBack hx (y := nm_37) (z := nm_37) hown1 (mvT hZ1 (ow hw 230 rfl)) (mvT hZ1 (ow hw 231 rfl)) (notFace_of_selects (args := #[]) (mvT hZ1 (ow hw 233 rfl))) (mvT hZ1 (ow hw 233 rfl)) (mvT hZ1 (ow hw 232 rfl)) (by decide) (backOf (W := 0) (rm37 l Z a0 hw [] b54 ar61 n (fun j => if j = (own_md ((own_md (0 + 1) n) + 1) n) then t3 else (fun j => if j = (own_md (0 + 1) n) then t2 else (fun j => if j = 0 then t1 else (fun _ => (-9223372036854775808 : Int64)) j) j) j) (own_md ((own_md ((own_md (0 + 1) n) + 1) n) + 1) n) T85.heap n0 (Nat.le_trans (Nat.le_trans (Nat.le_trans (Nat.le_trans (Nat.le_trans (Nat.le_trans (Nat.le_trans (Nat.le_trans (Nat.le_trans (Nat.le_trans (Nat.le_trans (Nat.le_trans (Nat.le_trans Z0 E1.1) K3.1) E5.1) K6.1) K15.1) K29.1) E32.1) K52.1) E54.1) K61.1) K73.1) K79.1) K85.1) hn (own_mdlt (own_mdlt (own_mdlt hn1))) ⟨Eob86, F0ob86, F1ob86⟩ FF85) hZ1 (ow hw 234 rfl) (ow hw 201 rfl) (by decide) (by decide)) q87a q87c (g := (mkF m 192 #[.val (.int p1), .val (.long q1), .second, .val (.long q2), .second, .val (.long q3), .second, .val (.long q4), .second, .val (.int nn), .val (.int cn), .val (.long t1), .second, .val (.long t2), .second, .val (.long t3), .second, .val (.long t4), .second, .val (.ref b1), .val (.ref b32), .val (.ref b54), .val (.long t3), .second] [(.ref b54)])) rfl (by rw [hml]; rfl) (Steps.refl _) (argsL := []) (rest := []) (lenOf pd_18 rfl) rfl (by show 2 * 0 + _ ≤ _; exact Nat.le_of_eq rfl) (hb hby at_192) (fun _ _ => ⟨rfl, rfl, (by decide : 11 + 0 ≤ _), (by decide : 70 + 0 ≤ _)⟩)
  dsimp only [Pt.U, Pt.locs, Pt.cells, Pt.slots] at X87 l87 y87 z87 st87 hQ87
  subst l87 y87 z87
  obtain ⟨rfl, N87q, e87⟩ := hQ87
  have N87 := Fr.app N85 N87q
  obtain ⟨fsq, hr, hrun, hended, hRW⟩ := X87.leaveW hS (by rw [e87]; exact (Nat.le_trans (Nat.le_trans (Nat.le_trans (Nat.le_trans (Nat.le_trans (Nat.le_trans (Nat.le_trans (Nat.le_trans (Nat.le_refl _) K29.1) E32.1) K52.1) E54.1) K61.1) K73.1) K79.1) K85.1)) (v := some (.int (1 : Int32))) (fun h => by rw [Bd.returns] at h; cases h)
  refine ⟨_, _, pre0 _ ?_, hrun, hended, _, _, rfl, ?_, hRW.1, hRW.2.1, hRW.2.2.1, hRW.2.2.2.mono (by decide) (by decide)⟩
  · show Steps p.tables e below (s₁.setTop (mkF m 0 #[.val (.int p1), .val (.long q1), .second, .val (.long q2), .second, .val (.long q3), .second, .val (.long q4), .second, .unset, .unset, .unset, .unset, .unset, .unset, .unset, .unset, .unset, .unset, .unset, .unset, .unset, .unset, .unset] [])) _
    refine XS.iconst X0.here hx rfl (hb hby at_0) ?_
    refine XS.iloadN X0.here hx rfl (hb hby at_1) rfl ?_
    refine XS.iconst X0.here hx rfl (hb hby at_2) ?_
    show Steps p.tables e below (s₁.setTop (mkF m 3 #[.val (.int p1), .val (.long q1), .second, .val (.long q2), .second, .val (.long q3), .second, .val (.long q4), .second, .unset, .unset, .unset, .unset, .unset, .unset, .unset, .unset, .unset, .unset, .unset, .unset, .unset, .unset, .unset] [(.int (3 : Int32)), (.int p1), (.int (1 : Int32))])) _
    refine XS.iand X0.here hx rfl (hb hby at_3) rfl ?_
    refine XS.iadd X0.here hx rfl (hb hby at_4) rfl ?_
    show Steps p.tables e below (s₁.setTop (mkF m 5 #[.val (.int p1), .val (.long q1), .second, .val (.long q2), .second, .val (.long q3), .second, .val (.long q4), .second, .unset, .unset, .unset, .unset, .unset, .unset, .unset, .unset, .unset, .unset, .unset, .unset, .unset, .unset, .unset] [(.int ((1 : Int32) + (p1 &&& (3 : Int32))))])) _
    rw [hnnx]
    refine XS.istore X0.here hx rfl (hb hby at_5) rfl (l' := #[.val (.int p1), .val (.long q1), .second, .val (.long q2), .second, .val (.long q3), .second, .val (.long q4), .second, .val (.int nn), .unset, .unset, .unset, .unset, .unset, .unset, .unset, .unset, .unset, .unset, .unset, .unset, .unset, .unset]) rfl ?_
    show Steps p.tables e below (s₁.setTop (mkF m 7 #[.val (.int p1), .val (.long q1), .second, .val (.long q2), .second, .val (.long q3), .second, .val (.long q4), .second, .val (.int nn), .unset, .unset, .unset, .unset, .unset, .unset, .unset, .unset, .unset, .unset, .unset, .unset, .unset, .unset] [])) _
    refine XS.iconst X0.here hx rfl (hb hby at_7) ?_
    refine XS.iloadN X0.here hx rfl (hb hby at_8) rfl ?_
    refine XS.iconst X0.here hx rfl (hb hby at_9) ?_
    show Steps p.tables e below (s₁.setTop (mkF m 10 #[.val (.int p1), .val (.long q1), .second, .val (.long q2), .second, .val (.long q3), .second, .val (.long q4), .second, .val (.int nn), .unset, .unset, .unset, .unset, .unset, .unset, .unset, .unset, .unset, .unset, .unset, .unset, .unset, .unset] [(.int (2 : Int32)), (.int p1), (.int (1 : Int32))])) _
    refine XS.iushr X0.here hx rfl (hb hby at_10) rfl ?_
    refine XS.bipush X0.here hx rfl (hb hby at_11) ?_
    refine XS.iand X0.here hx rfl (hb hby at_13) rfl ?_
    show Steps p.tables e below (s₁.setTop (mkF m 14 #[.val (.int p1), .val (.long q1), .second, .val (.long q2), .second, .val (.long q3), .second, .val (.long q4), .second, .val (.int nn), .unset, .unset, .unset, .unset, .unset, .unset, .unset, .unset, .unset, .unset, .unset, .unset, .unset, .unset] [(.int (((p1.toUInt32 >>> ((2 : Int32) &&& 31).toUInt32).toInt32) &&& (31 : Int32))), (.int (1 : Int32))])) _
    refine XS.iadd X0.here hx rfl (hb hby at_14) rfl ?_
    show Steps p.tables e below (s₁.setTop (mkF m 15 #[.val (.int p1), .val (.long q1), .second, .val (.long q2), .second, .val (.long q3), .second, .val (.long q4), .second, .val (.int nn), .unset, .unset, .unset, .unset, .unset, .unset, .unset, .unset, .unset, .unset, .unset, .unset, .unset, .unset] [(.int ((1 : Int32) + (((p1.toUInt32 >>> ((2 : Int32) &&& 31).toUInt32).toInt32) &&& (31 : Int32))))])) _
    rw [hcnx]
    refine XS.istore X0.here hx rfl (hb hby at_15) rfl (l' := #[.val (.int p1), .val (.long q1), .second, .val (.long q2), .second, .val (.long q3), .second, .val (.long q4), .second, .val (.int nn), .val (.int cn), .unset, .unset, .unset, .unset, .unset, .unset, .unset, .unset, .unset, .unset, .unset, .unset, .unset]) rfl ?_
    refine XS.lloadN X0.here hx rfl (hb hby at_17) rfl ?_
    show Steps p.tables e below (s₁.setTop (mkF m 18 #[.val (.int p1), .val (.long q1), .second, .val (.long q2), .second, .val (.long q3), .second, .val (.long q4), .second, .val (.int nn), .val (.int cn), .unset, .unset, .unset, .unset, .unset, .unset, .unset, .unset, .unset, .unset, .unset, .unset, .unset] [(.long q1)])) _
    refine X0.ldc2Long hx hown (mvT hZ (ow hw 0 rfl)) (g := (mkF m 18 #[.val (.int p1), .val (.long q1), .second, .val (.long q2), .second, .val (.long q3), .second, .val (.long q4), .second, .val (.int nn), .val (.int cn), .unset, .unset, .unset, .unset, .unset, .unset, .unset, .unset, .unset, .unset, .unset, .unset, .unset] [(.long q1)])) rfl (hb hby at_18) _ ?_
    refine XS.land X0.here hx rfl (hb hby at_21) rfl ?_
    refine XS.iconst X0.here hx rfl (hb hby at_22) ?_
    show Steps p.tables e below (s₁.setTop (mkF m 23 #[.val (.int p1), .val (.long q1), .second, .val (.long q2), .second, .val (.long q3), .second, .val (.long q4), .second, .val (.int nn), .val (.int cn), .unset, .unset, .unset, .unset, .unset, .unset, .unset, .unset, .unset, .unset, .unset, .unset, .unset] [(.int (3 : Int32)), (.long (q1 &&& (9223372036854775807 : Int64)))])) _
    refine XS.lushr X0.here hx rfl (hb hby at_23) rfl ?_
    show Steps p.tables e below (s₁.setTop (mkF m 24 #[.val (.int p1), .val (.long q1), .second, .val (.long q2), .second, .val (.long q3), .second, .val (.long q4), .second, .val (.int nn), .val (.int cn), .unset, .unset, .unset, .unset, .unset, .unset, .unset, .unset, .unset, .unset, .unset, .unset, .unset] [(.long (((q1 &&& (9223372036854775807 : Int64)).toUInt64 >>> ((3 : Int32) &&& 0x3f).toInt64.toUInt64).toInt64))])) _
    rw [h_t1]
    refine XS.lstore X0.here hx rfl (hb hby at_24) rfl (l' := #[.val (.int p1), .val (.long q1), .second, .val (.long q2), .second, .val (.long q3), .second, .val (.long q4), .second, .val (.int nn), .val (.int cn), .val (.long t1), .second, .unset, .unset, .unset, .unset, .unset, .unset, .unset, .unset, .unset, .unset, .unset]) rfl ?_
    refine XS.lload X0.here hx rfl (hb hby at_26) rfl ?_
    show Steps p.tables e below (s₁.setTop (mkF m 28 #[.val (.int p1), .val (.long q1), .second, .val (.long q2), .second, .val (.long q3), .second, .val (.long q4), .second, .val (.int nn), .val (.int cn), .val (.long t1), .second, .unset, .unset, .unset, .unset, .unset, .unset, .unset, .unset, .unset, .unset, .unset] [(.long t1)])) _
    refine XS.lloadN X0.here hx rfl (hb hby at_28) rfl ?_
    refine X0.ldc2Long hx hown (mvT hZ (ow hw 0 rfl)) (g := (mkF m 29 #[.val (.int p1), .val (.long q1), .second, .val (.long q2), .second, .val (.long q3), .second, .val (.long q4), .second, .val (.int nn), .val (.int cn), .val (.long t1), .second, .unset, .unset, .unset, .unset, .unset, .unset, .unset, .unset, .unset, .unset, .unset] [(.long q2), (.long t1)])) rfl (hb hby at_29) _ ?_
    refine XS.land X0.here hx rfl (hb hby at_32) rfl ?_
    show Steps p.tables e below (s₁.setTop (mkF m 33 #[.val (.int p1), .val (.long q1), .second, .val (.long q2), .second, .val (.long q3), .second, .val (.long q4), .second, .val (.int nn), .val (.int cn), .val (.long t1), .second, .unset, .unset, .unset, .unset, .unset, .unset, .unset, .unset, .unset, .unset, .unset] [(.long (q2 &&& (9223372036854775807 : Int64))), (.long t1)])) _
    refine XS.iconst X0.here hx rfl (hb hby at_33) ?_
    refine XS.lushr X0.here hx rfl (hb hby at_34) rfl ?_
    refine XS.ladd X0.here hx rfl (hb hby at_35) rfl ?_
    show Steps p.tables e below (s₁.setTop (mkF m 36 #[.val (.int p1), .val (.long q1), .second, .val (.long q2), .second, .val (.long q3), .second, .val (.long q4), .second, .val (.int nn), .val (.int cn), .val (.long t1), .second, .unset, .unset, .unset, .unset, .unset, .unset, .unset, .unset, .unset, .unset, .unset] [(.long (t1 + (((q2 &&& (9223372036854775807 : Int64)).toUInt64 >>> ((3 : Int32) &&& 0x3f).toInt64.toUInt64).toInt64)))])) _
    refine XS.lconst X0.here hx rfl (hb hby at_36) ?_
    refine XS.ladd X0.here hx rfl (hb hby at_37) rfl ?_
    show Steps p.tables e below (s₁.setTop (mkF m 38 #[.val (.int p1), .val (.long q1), .second, .val (.long q2), .second, .val (.long q3), .second, .val (.long q4), .second, .val (.int nn), .val (.int cn), .val (.long t1), .second, .unset, .unset, .unset, .unset, .unset, .unset, .unset, .unset, .unset, .unset, .unset] [(.long ((t1 + (((q2 &&& (9223372036854775807 : Int64)).toUInt64 >>> ((3 : Int32) &&& 0x3f).toInt64.toUInt64).toInt64)) + (1 : Int64)))])) _
    rw [h_t2]
    refine XS.lstore X0.here hx rfl (hb hby at_38) rfl (l' := #[.val (.int p1), .val (.long q1), .second, .val (.long q2), .second, .val (.long q3), .second, .val (.long q4), .second, .val (.int nn), .val (.int cn), .val (.long t1), .second, .val (.long t2), .second, .unset, .unset, .unset, .unset, .unset, .unset, .unset, .unset, .unset]) rfl ?_
    show Steps p.tables e below (s₁.setTop (mkF m 40 #[.val (.int p1), .val (.long q1), .second, .val (.long q2), .second, .val (.long q3), .second, .val (.long q4), .second, .val (.int nn), .val (.int cn), .val (.long t1), .second, .val (.long t2), .second, .unset, .unset, .unset, .unset, .unset, .unset, .unset, .unset, .unset] [])) _
    refine XS.lload X0.here hx rfl (hb hby at_40) rfl ?_
    refine XS.lload X0.here hx rfl (hb hby at_42) rfl ?_
    refine X0.ldc2Long hx hown (mvT hZ (ow hw 0 rfl)) (g := (mkF m 44 #[.val (.int p1), .val (.long q1), .second, .val (.long q2), .second, .val (.long q3), .second, .val (.long q4), .second, .val (.int nn), .val (.int cn), .val (.long t1), .second, .val (.long t2), .second, .unset, .unset, .unset, .unset, .unset, .unset, .unset, .unset, .unset] [(.long q3), (.long t2)])) rfl (hb hby at_44) _ ?_
    show Steps p.tables e below (s₁.setTop (mkF m 47 #[.val (.int p1), .val (.long q1), .second, .val (.long q2), .second, .val (.long q3), .second, .val (.long q4), .second, .val (.int nn), .val (.int cn), .val (.long t1), .second, .val (.long t2), .second, .unset, .unset, .unset, .unset, .unset, .unset, .unset, .unset, .unset] [(.long (9223372036854775807 : Int64)), (.long q3), (.long t2)])) _
    refine XS.land X0.here hx rfl (hb hby at_47) rfl ?_
    refine XS.iconst X0.here hx rfl (hb hby at_48) ?_
    refine XS.lushr X0.here hx rfl (hb hby at_49) rfl ?_
    show Steps p.tables e below (s₁.setTop (mkF m 50 #[.val (.int p1), .val (.long q1), .second, .val (.long q2), .second, .val (.long q3), .second, .val (.long q4), .second, .val (.int nn), .val (.int cn), .val (.long t1), .second, .val (.long t2), .second, .unset, .unset, .unset, .unset, .unset, .unset, .unset, .unset, .unset] [(.long (((q3 &&& (9223372036854775807 : Int64)).toUInt64 >>> ((3 : Int32) &&& 0x3f).toInt64.toUInt64).toInt64)), (.long t2)])) _
    refine XS.ladd X0.here hx rfl (hb hby at_50) rfl ?_
    refine XS.lconst X0.here hx rfl (hb hby at_51) ?_
    refine XS.ladd X0.here hx rfl (hb hby at_52) rfl ?_
    show Steps p.tables e below (s₁.setTop (mkF m 53 #[.val (.int p1), .val (.long q1), .second, .val (.long q2), .second, .val (.long q3), .second, .val (.long q4), .second, .val (.int nn), .val (.int cn), .val (.long t1), .second, .val (.long t2), .second, .unset, .unset, .unset, .unset, .unset, .unset, .unset, .unset, .unset] [(.long ((t2 + (((q3 &&& (9223372036854775807 : Int64)).toUInt64 >>> ((3 : Int32) &&& 0x3f).toInt64.toUInt64).toInt64)) + (1 : Int64)))])) _
    rw [h_t3]
    refine XS.lstore X0.here hx rfl (hb hby at_53) rfl (l' := #[.val (.int p1), .val (.long q1), .second, .val (.long q2), .second, .val (.long q3), .second, .val (.long q4), .second, .val (.int nn), .val (.int cn), .val (.long t1), .second, .val (.long t2), .second, .val (.long t3), .second, .unset, .unset, .unset, .unset, .unset, .unset, .unset]) rfl ?_
    refine XS.lload X0.here hx rfl (hb hby at_55) rfl ?_
    refine XS.lload X0.here hx rfl (hb hby at_57) rfl ?_
    show Steps p.tables e below (s₁.setTop (mkF m 59 #[.val (.int p1), .val (.long q1), .second, .val (.long q2), .second, .val (.long q3), .second, .val (.long q4), .second, .val (.int nn), .val (.int cn), .val (.long t1), .second, .val (.long t2), .second, .val (.long t3), .second, .unset, .unset, .unset, .unset, .unset, .unset, .unset] [(.long q4), (.long t3)])) _
    refine X0.ldc2Long hx hown (mvT hZ (ow hw 0 rfl)) (g := (mkF m 59 #[.val (.int p1), .val (.long q1), .second, .val (.long q2), .second, .val (.long q3), .second, .val (.long q4), .second, .val (.int nn), .val (.int cn), .val (.long t1), .second, .val (.long t2), .second, .val (.long t3), .second, .unset, .unset, .unset, .unset, .unset, .unset, .unset] [(.long q4), (.long t3)])) rfl (hb hby at_59) _ ?_
    refine XS.land X0.here hx rfl (hb hby at_62) rfl ?_
    refine XS.iconst X0.here hx rfl (hb hby at_63) ?_
    show Steps p.tables e below (s₁.setTop (mkF m 64 #[.val (.int p1), .val (.long q1), .second, .val (.long q2), .second, .val (.long q3), .second, .val (.long q4), .second, .val (.int nn), .val (.int cn), .val (.long t1), .second, .val (.long t2), .second, .val (.long t3), .second, .unset, .unset, .unset, .unset, .unset, .unset, .unset] [(.int (3 : Int32)), (.long (q4 &&& (9223372036854775807 : Int64))), (.long t3)])) _
    refine XS.lushr X0.here hx rfl (hb hby at_64) rfl ?_
    refine XS.ladd X0.here hx rfl (hb hby at_65) rfl ?_
    refine XS.lconst X0.here hx rfl (hb hby at_66) ?_
    show Steps p.tables e below (s₁.setTop (mkF m 67 #[.val (.int p1), .val (.long q1), .second, .val (.long q2), .second, .val (.long q3), .second, .val (.long q4), .second, .val (.int nn), .val (.int cn), .val (.long t1), .second, .val (.long t2), .second, .val (.long t3), .second, .unset, .unset, .unset, .unset, .unset, .unset, .unset] [(.long (1 : Int64)), (.long (t3 + (((q4 &&& (9223372036854775807 : Int64)).toUInt64 >>> ((3 : Int32) &&& 0x3f).toInt64.toUInt64).toInt64)))])) _
    refine XS.ladd X0.here hx rfl (hb hby at_67) rfl ?_
    show Steps p.tables e below (s₁.setTop (mkF m 68 #[.val (.int p1), .val (.long q1), .second, .val (.long q2), .second, .val (.long q3), .second, .val (.long q4), .second, .val (.int nn), .val (.int cn), .val (.long t1), .second, .val (.long t2), .second, .val (.long t3), .second, .unset, .unset, .unset, .unset, .unset, .unset, .unset] [(.long ((t3 + (((q4 &&& (9223372036854775807 : Int64)).toUInt64 >>> ((3 : Int32) &&& 0x3f).toInt64.toUInt64).toInt64)) + (1 : Int64)))])) _
    rw [h_t4]
    refine XS.lstore X0.here hx rfl (hb hby at_68) rfl (l' := #[.val (.int p1), .val (.long q1), .second, .val (.long q2), .second, .val (.long q3), .second, .val (.long q4), .second, .val (.int nn), .val (.int cn), .val (.long t1), .second, .val (.long t2), .second, .val (.long t3), .second, .val (.long t4), .second, .unset, .unset, .unset, .unset, .unset]) rfl ?_
    refine st1 _ ?_
    show Steps p.tables e below (T1.setTop (mkF m 73 #[.val (.int p1), .val (.long q1), .second, .val (.long q2), .second, .val (.long q3), .second, .val (.long q4), .second, .val (.int nn), .val (.int cn), .val (.long t1), .second, .val (.long t2), .second, .val (.long t3), .second, .val (.long t4), .second, .unset, .unset, .unset, .unset, .unset] [(.ref b1)])) _
    refine XS.dup X1.here hx rfl (hb hby at_73) rfl rfl ?_
    refine st3.trans ?_
    refine XS.astore X3.here hx rfl (hb hby at_77) rfl rfl (l' := #[.val (.int p1), .val (.long q1), .second, .val (.long q2), .second, .val (.long q3), .second, .val (.long q4), .second, .val (.int nn), .val (.int cn), .val (.long t1), .second, .val (.long t2), .second, .val (.long t3), .second, .val (.long t4), .second, .val (.ref b1), .unset, .unset, .unset, .unset]) rfl ?_
    show Steps p.tables e below (T3.setTop (mkF m 79 #[.val (.int p1), .val (.long q1), .second, .val (.long q2), .second, .val (.long q3), .second, .val (.long q4), .second, .val (.int nn), .val (.int cn), .val (.long t1), .second, .val (.long t2), .second, .val (.long t3), .second, .val (.long t4), .second, .val (.ref b1), .unset, .unset, .unset, .unset] [])) _
    refine XS.aload X3.here hx rfl (hb hby at_79) rfl rfl ?_
    refine st5 _ ?_
    refine XS.dup X5.here hx rfl (hb hby at_84) rfl rfl ?_
    show Steps p.tables e below (T5.setTop (mkF m 85 #[.val (.int p1), .val (.long q1), .second, .val (.long q2), .second, .val (.long q3), .second, .val (.long q4), .second, .val (.int nn), .val (.int cn), .val (.long t1), .second, .val (.long t2), .second, .val (.long t3), .second, .val (.long t4), .second, .val (.ref b1), .unset, .unset, .unset, .unset] [(.ref b5), (.ref b5), (.ref b1)])) _
    refine XS.iload X5.here hx rfl (hb hby at_85) rfl ?_
    refine XS.lconst X5.here hx rfl (hb hby at_87) ?_
    refine st6 _ ?_
    show Steps p.tables e below (T6.setTop (mkF m 91 #[.val (.int p1), .val (.long q1), .second, .val (.long q2), .second, .val (.long q3), .second, .val (.long q4), .second, .val (.int nn), .val (.int cn), .val (.long t1), .second, .val (.long t2), .second, .val (.long t3), .second, .val (.long t4), .second, .val (.ref b1), .unset, .unset, .unset, .unset] [(.ref bb6), (.int cn), (.ref b5), (.ref b5), (.ref b1)])) _
    refine st15.trans ?_
    refine st29.trans ?_
    refine XS.pop X29.here hx rfl (hb hby at_97) rfl rfl ?_
    show Steps p.tables e below (T29.setTop (mkF m 98 #[.val (.int p1), .val (.long q1), .second, .val (.long q2), .second, .val (.long q3), .second, .val (.long q4), .second, .val (.int nn), .val (.int cn), .val (.long t1), .second, .val (.long t2), .second, .val (.long t3), .second, .val (.long t4), .second, .val (.ref b1), .unset, .unset, .unset, .unset] [])) _
    refine st32 _ ?_
    refine XS.dup X32.here hx rfl (hb hby at_101) rfl rfl ?_
    refine XS.aload X32.here hx rfl (hb hby at_102) rfl rfl ?_
    show Steps p.tables e below (T32.setTop (mkF m 104 #[.val (.int p1), .val (.long q1), .second, .val (.long q2), .second, .val (.long q3), .second, .val (.long q4), .second, .val (.int nn), .val (.int cn), .val (.long t1), .second, .val (.long t2), .second, .val (.long t3), .second, .val (.long t4), .second, .val (.ref b1), .unset, .unset, .unset, .unset] [(.ref b1), (.ref b32), (.ref b32)])) _
    refine st52.trans ?_
    refine XS.astore X52.here hx rfl (hb hby at_107) rfl rfl (l' := #[.val (.int p1), .val (.long q1), .second, .val (.long q2), .second, .val (.long q3), .second, .val (.long q4), .second, .val (.int nn), .val (.int cn), .val (.long t1), .second, .val (.long t2), .second, .val (.long t3), .second, .val (.long t4), .second, .val (.ref b1), .val (.ref b32), .unset, .unset, .unset]) rfl ?_
    refine st54 _ ?_
    show Steps p.tables e below (T54.setTop (mkF m 112 #[.val (.int p1), .val (.long q1), .second, .val (.long q2), .second, .val (.long q3), .second, .val (.long q4), .second, .val (.int nn), .val (.int cn), .val (.long t1), .second, .val (.long t2), .second, .val (.long t3), .second, .val (.long t4), .second, .val (.ref b1), .val (.ref b32), .unset, .unset, .unset] [(.ref b54)])) _
    refine XS.dup X54.here hx rfl (hb hby at_112) rfl rfl ?_
    refine XS.aload X54.here hx rfl (hb hby at_113) rfl rfl ?_
    refine st61.trans ?_
    show Steps p.tables e below (T61.setTop (mkF m 118 #[.val (.int p1), .val (.long q1), .second, .val (.long q2), .second, .val (.long q3), .second, .val (.long q4), .second, .val (.int nn), .val (.int cn), .val (.long t1), .second, .val (.long t2), .second, .val (.long t3), .second, .val (.long t4), .second, .val (.ref b1), .val (.ref b32), .unset, .unset, .unset] [(.ref b54)])) _
    refine XS.astore X61.here hx rfl (hb hby at_118) rfl rfl (l' := #[.val (.int p1), .val (.long q1), .second, .val (.long q2), .second, .val (.long q3), .second, .val (.long q4), .second, .val (.int nn), .val (.int cn), .val (.long t1), .second, .val (.long t2), .second, .val (.long t3), .second, .val (.long t4), .second, .val (.ref b1), .val (.ref b32), .val (.ref b54), .unset, .unset]) rfl ?_
    refine XS.aload X61.here hx rfl (hb hby at_120) rfl rfl ?_
    refine XS.aload X61.here hx rfl (hb hby at_122) rfl rfl ?_
    show Steps p.tables e below (T61.setTop (mkF m 124 #[.val (.int p1), .val (.long q1), .second, .val (.long q2), .second, .val (.long q3), .second, .val (.long q4), .second, .val (.int nn), .val (.int cn), .val (.long t1), .second, .val (.long t2), .second, .val (.long t3), .second, .val (.long t4), .second, .val (.ref b1), .val (.ref b32), .val (.ref b54), .unset, .unset] [(.ref b32), (.ref b54)])) _
    refine XS.lload X61.here hx rfl (hb hby at_124) rfl ?_
    refine st73.trans ?_
    refine XS.lload X73.here hx rfl (hb hby at_129) rfl ?_
    show Steps p.tables e below (T73.setTop (mkF m 131 #[.val (.int p1), .val (.long q1), .second, .val (.long q2), .second, .val (.long q3), .second, .val (.long q4), .second, .val (.int nn), .val (.int cn), .val (.long t1), .second, .val (.long t2), .second, .val (.long t3), .second, .val (.long t4), .second, .val (.ref b1), .val (.ref b32), .val (.ref b54), .unset, .unset] [(.long t1)])) _
    refine XS.lstore X73.here hx rfl (hb hby at_131) rfl (l' := #[.val (.int p1), .val (.long q1), .second, .val (.long q2), .second, .val (.long q3), .second, .val (.long q4), .second, .val (.int nn), .val (.int cn), .val (.long t1), .second, .val (.long t2), .second, .val (.long t3), .second, .val (.long t4), .second, .val (.ref b1), .val (.ref b32), .val (.ref b54), .val (.long t1), .second]) rfl ?_
    refine XS.iload X73.here hx rfl (hb hby at_133) rfl ?_
    refine XS.iconst X73.here hx rfl (hb hby at_135) ?_
    show Steps p.tables e below (T73.setTop (mkF m 136 #[.val (.int p1), .val (.long q1), .second, .val (.long q2), .second, .val (.long q3), .second, .val (.long q4), .second, .val (.int nn), .val (.int cn), .val (.long t1), .second, .val (.long t2), .second, .val (.long t3), .second, .val (.long t4), .second, .val (.ref b1), .val (.ref b32), .val (.ref b54), .val (.long t1), .second] [(.int (2 : Int32)), (.int nn)])) _
    refine XS.icmpNo X73.here hx rfl (hb hby at_136) rfl (flt hc136).1 ?_
    refine XS.aload X73.here hx rfl (hb hby at_139) rfl rfl ?_
    refine XS.aload X73.here hx rfl (hb hby at_141) rfl rfl ?_
    show Steps p.tables e below (T73.setTop (mkF m 143 #[.val (.int p1), .val (.long q1), .second, .val (.long q2), .second, .val (.long q3), .second, .val (.long q4), .second, .val (.int nn), .val (.int cn), .val (.long t1), .second, .val (.long t2), .second, .val (.long t3), .second, .val (.long t4), .second, .val (.ref b1), .val (.ref b32), .val (.ref b54), .val (.long t1), .second] [(.ref b32), (.ref b54)])) _
    refine XS.lload X73.here hx rfl (hb hby at_143) rfl ?_
    refine st79.trans ?_
    refine XS.lload X79.here hx rfl (hb hby at_148) rfl ?_
    show Steps p.tables e below (T79.setTop (mkF m 150 #[.val (.int p1), .val (.long q1), .second, .val (.long q2), .second, .val (.long q3), .second, .val (.long q4), .second, .val (.int nn), .val (.int cn), .val (.long t1), .second, .val (.long t2), .second, .val (.long t3), .second, .val (.long t4), .second, .val (.ref b1), .val (.ref b32), .val (.ref b54), .val (.long t1), .second] [(.long t2)])) _
    refine XS.lstore X79.here hx rfl (hb hby at_150) rfl (l' := #[.val (.int p1), .val (.long q1), .second, .val (.long q2), .second, .val (.long q3), .second, .val (.long q4), .second, .val (.int nn), .val (.int cn), .val (.long t1), .second, .val (.long t2), .second, .val (.long t3), .second, .val (.long t4), .second, .val (.ref b1), .val (.ref b32), .val (.ref b54), .val (.long t2), .second]) rfl ?_
    refine XS.iload X79.here hx rfl (hb hby at_152) rfl ?_
    refine XS.iconst X79.here hx rfl (hb hby at_154) ?_
    show Steps p.tables e below (T79.setTop (mkF m 155 #[.val (.int p1), .val (.long q1), .second, .val (.long q2), .second, .val (.long q3), .second, .val (.long q4), .second, .val (.int nn), .val (.int cn), .val (.long t1), .second, .val (.long t2), .second, .val (.long t3), .second, .val (.long t4), .second, .val (.ref b1), .val (.ref b32), .val (.ref b54), .val (.long t2), .second] [(.int (3 : Int32)), (.int nn)])) _
    refine XS.icmpNo X79.here hx rfl (hb hby at_155) rfl (flt hc155).1 ?_
    refine XS.aload X79.here hx rfl (hb hby at_158) rfl rfl ?_
    refine XS.aload X79.here hx rfl (hb hby at_160) rfl rfl ?_
    show Steps p.tables e below (T79.setTop (mkF m 162 #[.val (.int p1), .val (.long q1), .second, .val (.long q2), .second, .val (.long q3), .second, .val (.long q4), .second, .val (.int nn), .val (.int cn), .val (.long t1), .second, .val (.long t2), .second, .val (.long t3), .second, .val (.long t4), .second, .val (.ref b1), .val (.ref b32), .val (.ref b54), .val (.long t2), .second] [(.ref b32), (.ref b54)])) _
    refine XS.lload X79.here hx rfl (hb hby at_162) rfl ?_
    refine st85.trans ?_
    refine XS.lload X85.here hx rfl (hb hby at_167) rfl ?_
    show Steps p.tables e below (T85.setTop (mkF m 169 #[.val (.int p1), .val (.long q1), .second, .val (.long q2), .second, .val (.long q3), .second, .val (.long q4), .second, .val (.int nn), .val (.int cn), .val (.long t1), .second, .val (.long t2), .second, .val (.long t3), .second, .val (.long t4), .second, .val (.ref b1), .val (.ref b32), .val (.ref b54), .val (.long t2), .second] [(.long t3)])) _
    refine XS.lstore X85.here hx rfl (hb hby at_169) rfl (l' := #[.val (.int p1), .val (.long q1), .second, .val (.long q2), .second, .val (.long q3), .second, .val (.long q4), .second, .val (.int nn), .val (.int cn), .val (.long t1), .second, .val (.long t2), .second, .val (.long t3), .second, .val (.long t4), .second, .val (.ref b1), .val (.ref b32), .val (.ref b54), .val (.long t3), .second]) rfl ?_
    refine XS.iload X85.here hx rfl (hb hby at_171) rfl ?_
    refine XS.iconst X85.here hx rfl (hb hby at_173) ?_
    show Steps p.tables e below (T85.setTop (mkF m 174 #[.val (.int p1), .val (.long q1), .second, .val (.long q2), .second, .val (.long q3), .second, .val (.long q4), .second, .val (.int nn), .val (.int cn), .val (.long t1), .second, .val (.long t2), .second, .val (.long t3), .second, .val (.long t4), .second, .val (.ref b1), .val (.ref b32), .val (.ref b54), .val (.long t3), .second] [(.int (4 : Int32)), (.int nn)])) _
    refine XS.icmpYes X85.here hx rfl (pc0 := 174) (pc' := 190) rfl (hb hby at_174) rfl (tlt hc174).1 (by decide) (by decide) ?_
    refine XS.aload X85.here hx rfl (hb hby at_190) rfl rfl ?_
    refine st87.trans ?_
    show Steps p.tables e below (T87.setTop (mkF m 195 #[.val (.int p1), .val (.long q1), .second, .val (.long q2), .second, .val (.long q3), .second, .val (.long q4), .second, .val (.int nn), .val (.int cn), .val (.long t1), .second, .val (.long t2), .second, .val (.long t3), .second, .val (.long t4), .second, .val (.ref b1), .val (.ref b32), .val (.ref b54), .val (.long t3), .second] [(.long ((fun j => if j = (own_md ((own_md (0 + 1) n) + 1) n) then t3 else (fun j => if j = (own_md (0 + 1) n) then t2 else (fun j => if j = 0 then t1 else (fun _ => (-9223372036854775808 : Int64)) j) j) j) (own_md ((own_md ((own_md ((own_md (0 + 1) n) + 1) n) + 1) n) + (n - 1)) n)))])) _
    refine XS.lload X87.here hx rfl (hb hby at_195) rfl ?_
    refine XS.lcmp X87.here hx rfl (hb hby at_197) rfl ?_
    refine XS.ifNo X87.here hx rfl (hb hby at_198) rfl ((if0 _ _).trans (teq ((lw_eq _ _).mpr ((own_read (f := (fun j => if j = (own_md (0 + 1) n) then t2 else (fun j => if j = 0 then t1 else (fun _ => (-9223372036854775808 : Int64)) j) j)) (own_mdlt (own_mdlt hn1))) : ((fun j => if j = (own_md ((own_md (0 + 1) n) + 1) n) then t3 else (fun j => if j = (own_md (0 + 1) n) then t2 else (fun j => if j = 0 then t1 else (fun _ => (-9223372036854775808 : Int64)) j) j) j) (own_md ((own_md ((own_md ((own_md (0 + 1) n) + 1) n) + 1) n) + (n - 1)) n)) = t3))).2) ?_
    show Steps p.tables e below (T87.setTop (mkF m 201 #[.val (.int p1), .val (.long q1), .second, .val (.long q2), .second, .val (.long q3), .second, .val (.long q4), .second, .val (.int nn), .val (.int cn), .val (.long t1), .second, .val (.long t2), .second, .val (.long t3), .second, .val (.long t4), .second, .val (.ref b1), .val (.ref b32), .val (.ref b54), .val (.long t3), .second] [])) _
    refine XS.iconst X87.here hx rfl (hb hby at_201) ?_
    refine XS.goto X87.here hx rfl (pc0 := 202) (pc' := 206) rfl (hb hby at_202) (by decide) (by decide) ?_
    show Steps p.tables e below (T87.setTop (mkF m 206 #[.val (.int p1), .val (.long q1), .second, .val (.long q2), .second, .val (.long q3), .second, .val (.long q4), .second, .val (.int nn), .val (.int cn), .val (.long t1), .second, .val (.long t2), .second, .val (.long t3), .second, .val (.long t4), .second, .val (.ref b1), .val (.ref b32), .val (.ref b54), .val (.long t3), .second] [(.int (1 : Int32))])) _
    exact retN X87 hx (t := .boolean) Bd.returns (by simp) (hb hby at_206) hr
  · show QF h0 n0 _ T87.heap _
    rw [e87]
    exact ⟨rfl, N87⟩
set_option maxRecDepth 65536 in
set_option maxHeartbeats 40000000 in
theorem rm0_4 (l : Launch) (Z : State) (a0 : Array Value) (hw : ∀ d ∈ tables_1, d.before a0 Z = true) (ws : List Jvm.Cond) (p1 : Int32) (q1 : Int64) (q2 : Int64) (q3 : Int64) (q4 : Int64) (de : Addr) (kd : ClassId) (zd : Addr) (ld : Addr) (cn : Int32) (nn : Int32) (n : Nat) (h0 : Heap) (n0 : Nat) (Z0 : n0 ≤ h0.size) (O0 : Old Z n0 h0) (SDZ : Sta Z Z.heap "java/util/ArrayList" "DEFAULTCAPACITY_EMPTY_ELEMENTDATA" "[Ljava/lang/Object;" (.ref de)) (VDZ : Arv Z Z.heap de kd (.object "java/lang/Object") (0 : Int32) [] .null) (SZZ : Sta Z Z.heap "java/time/Duration" "ZERO" "Ljava/time/Duration;" (.ref zd)) (FZZ : Fld Z Z.heap zd "java/time/Duration" "seconds" "J" (.long (0 : Int64))) (FZN : Fld Z Z.heap zd "java/time/Duration" "nanos" "I" (.int (0 : Int32))) (SLZ : Sta Z Z.heap "com/example/steady_sluice/steadysluice/Rule" "LONGEST_PERIOD" "Ljava/time/Duration;" (.ref ld)) (FLZ : Fld Z Z.heap ld "java/time/Duration" "seconds" "J" (.long (9223372036 : Int64))) (hcnx : ((1 : Int32) + ((p1.toUInt32 >>> ((2 : Int32) &&& 31).toUInt32).toInt32 &&& (31 : Int32))) = cn) (hnnx : ((1 : Int32) + (p1 &&& (3 : Int32))) = nn) (hcn : ¬ (cn < (1 : Int32))) (hc1 : (0 : Int32) < cn) (hc2 : cn < (2147483647 : Int32)) (hn1 : 0 < n) (hn : n ≤ 16) (hcap : Int32.ofNat n < cn → n = 16) (hmin : ∀ (hh : Heap) (nn0 : Nat), nn0 ≤ hh.size → MetFree l nm_30 (head1 (Jvm.Cond.code nm_30 jdk_29_method_69_code 2 (some .int) :: []) rr0) (fun aa zU => aa = #[(.int cn), (.int (16 : Int32))] ∧ Z.Warmed39 zU.vm ∧ zU.heap = hh) (fun _ _ _ _ _ => True) (fun _ zU zo zU' => ∃ zv zL, zo = .returned zv ∧ QP (some (.int (Int32.ofNat n))) hh nn0 zv zU'.heap zL ∧ FrameEnd zU zo zU' zL rr0.cells rr0.slots)) (hc136 : ¬ (nn < (2 : Int32))) (hc155 : ¬ (nn < (3 : Int32))) (hc174 : ¬ (nn < (4 : Int32))) :
    MetFree l x (head1 (Jvm.Cond.code x code maxLocals ret :: ws) room_1) (fun aa zU => aa = #[(.int p1), (.long q1), (.long q2), (.long q3), (.long q4)] ∧ Z.Warmed39 zU.vm ∧ zU.heap = h0) (fun _ _ _ _ _ => True) (fun _ zU zo zU' => ∃ zv zL, zo = .returned zv ∧ QF h0 n0 zv zU'.heap zL ∧ ReturnedEndW zU zo zU' zL room_1.cells room_1.slots) := by
  refine MetFree.of_bodySF (plainFor_of_name pn_com_example_steady_sluice_steadysluice_ScopeNewestAdmissionPinLaw) hisR ?_
  intro p e s m args below meth c s₁ Bd hml0 hP hK
  obtain ⟨rfl, hZ, hh⟩ := hP
  have hx := Bd.exec
  have hby := Bd.bytes
  have hml : c.maxLocals = 24 := hml0
  have hown : s.vm.findClass "com/example/steady_sluice/steadysluice/ScopeNewestAdmissionPinLaw" = some m.cls := findClass_of_methodNamed Bd.named
  have hnm := (name_of_methodNamed Bd.named Bd.method).1
  have X0 : Stand p l e room_1 s m #[(.int p1), (.long q1), (.long q2), (.long q3), (.long q4)] below meth c s₁ [] 0 0 := Stand.of_body Bd
  have e0 : s₁.heap = h0 := by rw [← hh, Bd.state]; rfl
  have N0 := Fr.nil n0
  have pre0 : ∀ t, Steps p.tables e below (s₁.setTop (mkF m 0 #[.val (.int p1), .val (.long q1), .second, .val (.long q2), .second, .val (.long q3), .second, .val (.long q4), .second, .unset, .unset, .unset, .unset, .unset, .unset, .unset, .unset, .unset, .unset, .unset, .unset, .unset, .unset, .unset] [])) t → Steps p.tables e below (s₁.setTop (entryFrame m #[(.int p1), (.long q1), (.long q2), (.long q3), (.long q4)] maxLocals)) t := fun t k => castTop (ef_0 m p1 q1 q2 q3 q4) k
  obtain ⟨t1, h_t1⟩ : ∃ z, (((q1 &&& (9223372036854775807 : Int64)).toUInt64 >>> ((3 : Int32) &&& 0x3f).toInt64.toUInt64).toInt64) = z := ⟨_, rfl⟩
  obtain ⟨t2, h_t2⟩ : ∃ z, ((t1 + (((q2 &&& (9223372036854775807 : Int64)).toUInt64 >>> ((3 : Int32) &&& 0x3f).toInt64.toUInt64).toInt64)) + (1 : Int64)) = z := ⟨_, rfl⟩
  obtain ⟨t3, h_t3⟩ : ∃ z, ((t2 + (((q3 &&& (9223372036854775807 : Int64)).toUInt64 >>> ((3 : Int32) &&& 0x3f).toInt64.toUInt64).toInt64)) + (1 : Int64)) = z := ⟨_, rfl⟩
  obtain ⟨t4, h_t4⟩ : ∃ z, ((t3 + (((q4 &&& (9223372036854775807 : Int64)).toUInt64 >>> ((3 : Int32) &&& 0x3f).toInt64.toUInt64).toInt64)) + (1 : Int64)) = z := ⟨_, rfl⟩
  obtain ⟨T1, h1, X1, e1, E1, A1, D1, -, st1⟩ := newO X0 hx hZ hown (ow hw 1 rfl) (ow hw 2 rfl) (ow hw 3 rfl) e0 (g := (mkF m 70 #[.val (.int p1), .val (.long q1), .second, .val (.long q2), .second, .val (.long q3), .second, .val (.long q4), .second, .val (.int nn), .val (.int cn), .val (.long t1), .second, .val (.long t2), .second, .val (.long t3), .second, .val (.long t4), .second, .unset, .unset, .unset, .unset, .unset] [])) rfl (hb hby at_70) (by decide) (by decide)
  obtain ⟨b1, g_b1⟩ : ∃ z, z = h0.size := ⟨_, rfl⟩
  rw [← g_b1] at A1 D1 st1
  have g0_b1 : n0 ≤ b1 := Nat.le_trans Z0 (Nat.le_of_eq g_b1.symm)
  have sz_b1 : h0.size ≤ b1 := Nat.le_trans (Nat.le_refl _) (Nat.le_of_eq g_b1.symm)
  have F_modCount_b1 : Fld Z h1 b1 "java/util/AbstractList" "modCount" "I" (.int (0 : Int32)) := D1 (Or.inl (ow hw 23 rfl)) (ty := .int) (by decide)
  have F_elementData_b1 : Fld Z h1 b1 "java/util/ArrayList" "elementData" "[Ljava/lang/Object;" .null := D1 (Or.inl (ow hw 26 rfl)) (ty := (.array (.object "java/lang/Object"))) (by decide)
  have F_size_b1 : Fld Z h1 b1 "java/util/ArrayList" "size" "I" (.int (0 : Int32)) := D1 (Or.inl (ow hw 94 rfl)) (ty := .int) (by decide)
  have c2 := O0.ext E1
  obtain ⟨_, _, ⟨T3, L3, k3, n3⟩, -, X3, ⟨Lc3, hQ3, l3, y3, z3⟩, st3⟩ := X1.specialBack hx (y := nm_1) rfl hown (mvT hZ (ow hw 4 rfl)) (mvT hZ (ow hw 5 rfl)) (mvT hZ (ow hw 6 rfl)) (by decide) (backOf (W := 1) (rm1 l Z a0 hw [] b1 de h1 n0 (Nat.le_trans Z0 E1.1) g0_b1 ⟨A1, F_modCount_b1, F_elementData_b1, F_size_b1⟩ (SDZ.ext c2.2)) hZ (ow hw 6 rfl) (ow hw 3 rfl) (by decide) (by decide)) (g := (mkF m 74 #[.val (.int p1), .val (.long q1), .second, .val (.long q2), .second, .val (.long q3), .second, .val (.long q4), .second, .val (.int nn), .val (.int cn), .val (.long t1), .second, .val (.long t2), .second, .val (.long t3), .second, .val (.long t4), .second, .unset, .unset, .unset, .unset, .unset] [(.ref b1), (.ref b1)])) rfl (by rw [hml]; rfl) (Steps.refl _) (a := b1) (argsL := []) (rest := [(.ref b1)]) (lenOf pd_0 rfl) rfl (by show 2 * 0 + _ ≤ _; exact Nat.le_of_eq rfl) (hb hby at_74) (fun _ _ => ⟨rfl, e1, (by decide : 1 + 0 ≤ _), (by decide : 3 + 0 ≤ _)⟩)
  dsimp only [Pt.U, Pt.locs, Pt.cells, Pt.slots] at X3 l3 y3 z3 st3 hQ3
  subst l3 y3 z3
  obtain ⟨rfl, N3q, K3, P03⟩ := hQ3
  have N3 := Fr.app N0 N3q
  obtain ⟨Eob4, F0ob4, F1ob4, F2ob4⟩ := id P03
  obtain ⟨T5, h5, X5, e5, E5, A5, D5, -, st5⟩ := newO X3 hx hZ hown (ow hw 27 rfl) (ow hw 28 rfl) (ow hw 29 rfl) rfl (g := (mkF m 81 #[.val (.int p1), .val (.long q1), .second, .val (.long q2), .second, .val (.long q3), .second, .val (.long q4), .second, .val (.int nn), .val (.int cn), .val (.long t1), .second, .val (.long t2), .second, .val (.long t3), .second, .val (.long t4), .second, .val (.ref b1), .unset, .unset, .unset, .unset] [(.ref b1)])) rfl (hb hby at_81) (by decide) (by decide)
  obtain ⟨b5, g_b5⟩ : ∃ z, z = T3.heap.size := ⟨_, rfl⟩
  rw [← g_b5] at A5 D5 st5
  have g0_b5 : n0 ≤ b5 := Nat.le_trans (Nat.le_trans (Nat.le_trans Z0 E1.1) K3.1) (Nat.le_of_eq g_b5.symm)
  have sz_b5 : h0.size ≤ b5 := Nat.le_trans (Nat.le_trans (Nat.le_trans (Nat.le_refl _) E1.1) K3.1) (Nat.le_of_eq g_b5.symm)
  have ne_b1_b5 : b1 ≠ b5 := Nat.ne_of_lt (Nat.lt_of_lt_of_le Eob4.lt (Nat.le_of_eq g_b5.symm))
  have F_count_b5 : Fld Z h5 b5 "com/example/steady_sluice/steadysluice/Rule" "count" "I" (.int (0 : Int32)) := D5 (Or.inr (ow hw 83 rfl)) (ty := .int) (by decide)
  have F_period_b5 : Fld Z h5 b5 "com/example/steady_sluice/steadysluice/Rule" "period" "Ljava/time/Duration;" .null := D5 (Or.inr (ow hw 85 rfl)) (ty := (.object "java/time/Duration")) (by decide)
  obtain ⟨_, _, ⟨T6, L6, k6, n6⟩, -, X6, ⟨Lc6, hQ6, l6, y6, z6⟩, st6⟩ := Jvm.LawKit.callS X5 hx (y := nm_5) hown (mvT hZ (ow hw 30 rfl)) (mvT hZ (ow hw 31 rfl)) (mvT hZ (ow hw 32 rfl)) (mvT hZ (ow hw 33 rfl)) (by decide) (backOf (W := 4) (rm5 l Z a0 hw [] h5 n0 (Nat.le_trans (Nat.le_trans (Nat.le_trans Z0 E1.1) K3.1) E5.1)) hZ (ow hw 33 rfl) (ow hw 32 rfl) (by decide) (by decide)) (g := (mkF m 88 #[.val (.int p1), .val (.long q1), .second, .val (.long q2), .second, .val (.long q3), .second, .val (.long q4), .second, .val (.int nn), .val (.int cn), .val (.long t1), .second, .val (.long t2), .second, .val (.long t3), .second, .val (.long t4), .second, .val (.ref b1), .unset, .unset, .unset, .unset] [(.long (1 : Int64)), (.int cn), (.ref b5), (.ref b5), (.ref b1)])) rfl (by rw [hml]; rfl) (argsL := [(.long (1 : Int64))]) (rest := [(.int cn), (.ref b5), (.ref b5), (.ref b1)]) (lenOf pd_1 rfl) rfl (by show 2 * 0 + _ ≤ _; exact Nat.le_of_eq rfl) (hb hby at_88) (fun _ _ => ⟨rfl, e5, (by decide : 2 + 1 ≤ _), (by decide : 5 + 2 ≤ _)⟩)
  dsimp only [Pt.U, Pt.locs, Pt.cells, Pt.slots] at X6 l6 y6 z6 st6 hQ6
  subst l6 y6 z6
  obtain ⟨bb6, rfl, N6q, K6, g0_bb6, szq6, P06⟩ := hQ6
  have N6 := Fr.app N3 N6q
  have c7 := Eob4.ext E5
  have ne_b1_bb6 : b1 ≠ bb6 := Nat.ne_of_lt (Nat.lt_of_lt_of_le c7.lt szq6)
  have ne_b5_bb6 : b5 ≠ bb6 := Nat.ne_of_lt (Nat.lt_of_lt_of_le A5.lt szq6)
  have sz_bb6 : h0.size ≤ bb6 := Nat.le_trans (Nat.le_trans (Nat.le_trans (Nat.le_trans (Nat.le_refl _) E1.1) K3.1) E5.1) szq6
  obtain ⟨Eob8, F0ob8, F1ob8⟩ := id P06
  have c9 := c2.keep K3 (allS g0_b1 all0)
  have c10 := c9.ext E5
  have c11 := c10.keep K6 all0
  have c12 := A5.keep K6
  have c13 := F_count_b5.keep K6 nin0
  have c14 := F_period_b5.keep K6 nin0
  obtain ⟨_, _, ⟨T15, L15, k15, n15⟩, -, X15, hS, hsz, ⟨Lc15, hQ15, l15, y15, z15⟩, st15⟩ := X6.specialBackS hx (y := nm_8) rfl hown (mvT hZ (ow hw 49 rfl)) (mvT hZ (ow hw 50 rfl)) (mvT hZ (ow hw 51 rfl)) (by decide) (backOfS (W := 2) (rm8 l Z a0 hw [] b5 cn bb6 zd ld T6.heap n0 (Nat.le_trans (Nat.le_trans (Nat.le_trans (Nat.le_trans Z0 E1.1) K3.1) E5.1) K6.1) g0_b5 ⟨c12, c13, c14⟩ ⟨Eob8, F0ob8, F1ob8⟩ hcn (SZZ.ext c11.2) (FZZ.ext c11.2) (FZN.ext c11.2) (SLZ.ext c11.2) (FLZ.ext c11.2)) hZ (ow hw 51 rfl) (ow hw 29 rfl) (by decide) (by decide)) (g := (mkF m 91 #[.val (.int p1), .val (.long q1), .second, .val (.long q2), .second, .val (.long q3), .second, .val (.long q4), .second, .val (.int nn), .val (.int cn), .val (.long t1), .second, .val (.long t2), .second, .val (.long t3), .second, .val (.long t4), .second, .val (.ref b1), .unset, .unset, .unset, .unset] [(.ref bb6), (.int cn), (.ref b5), (.ref b5), (.ref b1)])) rfl (by rw [hml]; rfl) (Steps.refl _) (a := b5) (argsL := [(.int cn), (.ref bb6)]) (rest := [(.ref b5), (.ref b1)]) (lenOf pd_4 rfl) rfl (by show 2 * 0 + _ ≤ _; exact Nat.le_of_eq rfl) (hb hby at_91) (fun _ _ => ⟨rfl, rfl, (by decide : 3 + 2 ≤ _), (by decide : 7 + 28 ≤ _)⟩)
  dsimp only [Pt.U, Pt.locs, Pt.cells, Pt.slots] at X15 l15 y15 z15 st15 hQ15 hS hsz
  subst l15 y15 z15
  obtain ⟨rfl, N15q, K15, P015⟩ := hQ15
  have N15 := Fr.app N6 N15q
  have hZ1 : Z.Warmed39 (s.setVm T15.vm).vm := State.Warmed39.trans hZ hS.1
  have hown1 : (s.setVm T15.vm).vm.findClass "com/example/steady_sluice/steadysluice/ScopeNewestAdmissionPinLaw" = some m.cls := (hS.1.alike.findClass _ _).trans hown
  obtain ⟨Eob16, F0ob16, F1ob16⟩ := id P015
  have c17 := c11.keep K15 (allS g0_b5 all0)
  have c18 := c7.keep K6
  have c19 := c18.keep K15
  have c20 := F0ob4.ext E5
  have c21 := c20.keep K6 nin0
  have c22 := c21.keep K15 (ninS ne_b1_b5 nin0)
  have c23 := F1ob4.ext E5
  have c24 := c23.keep K6 nin0
  have c25 := c24.keep K15 (ninS ne_b1_b5 nin0)
  have c26 := F2ob4.ext E5
  have c27 := c26.keep K6 nin0
  have c28 := c27.keep K15 (ninS ne_b1_b5 nin0)
  obtain ⟨cq29, kq29, q29a, q29b, q29c⟩ := isOf hZ1 rfl c19
  obtain ⟨_, _, ⟨T29, L29, k29, n29⟩, -, X29, ⟨Lc29, hQ29, l29, y29, z29⟩, st29⟩ := X15.virtualBack hx (y := nm_13) (z := nm_13) hown1 (mvT hZ1 (ow hw 86 rfl)) (mvT hZ1 (ow hw 87 rfl)) (notFace_of_selects (args := #[]) (mvT hZ1 (ow hw 89 rfl))) (mvT hZ1 (ow hw 89 rfl)) (mvT hZ1 (ow hw 88 rfl)) (by decide) (backOf (W := 0) (rm13 l Z a0 hw [] b1 b5 de kd T15.heap n0 (Nat.le_trans (Nat.le_trans (Nat.le_trans (Nat.le_trans (Nat.le_trans Z0 E1.1) K3.1) E5.1) K6.1) K15.1) g0_b1 ⟨c19, c22, c25, c28⟩ (VDZ.ext c17.2) (SDZ.ext c17.2) Eob16) hZ1 (ow hw 90 rfl) (ow hw 3 rfl) (by decide) (by decide)) q29a q29c (g := (mkF m 94 #[.val (.int p1), .val (.long q1), .second, .val (.long q2), .second, .val (.long q3), .second, .val (.long q4), .second, .val (.int nn), .val (.int cn), .val (.long t1), .second, .val (.long t2), .second, .val (.long t3), .second, .val (.long t4), .second, .val (.ref b1), .unset, .unset, .unset, .unset] [(.ref b5), (.ref b1)])) rfl (by rw [hml]; rfl) (Steps.refl _) (argsL := [(.ref b5)]) (rest := []) (lenOf pd_8 rfl) rfl (by show 2 * 0 + _ ≤ _; exact Nat.le_of_eq rfl) (hb hby at_94) (fun _ _ => ⟨rfl, rfl, (by decide : 5 + 1 ≤ _), (by decide : 35 + 10 ≤ _)⟩)
  dsimp only [Pt.U, Pt.locs, Pt.cells, Pt.slots] at X29 l29 y29 z29 st29 hQ29
  subst l29 y29 z29
  obtain ⟨rfl, N29q, K29, bb29, kk29, g0_bb29, szq29, P029, VV29⟩ := hQ29
  have N29 := Fr.app N15 N29q
  have ne_b1_bb29 : b1 ≠ bb29 := Nat.ne_of_lt (Nat.lt_of_lt_of_le c19.lt szq29)
  have ne_b5_bb29 : b5 ≠ bb29 := Nat.ne_of_lt (Nat.lt_of_lt_of_le Eob16.lt szq29)
  have c30 := Eob8.keep K15
  have ne_bb6_bb29 : bb6 ≠ bb29 := Nat.ne_of_lt (Nat.lt_of_lt_of_le c30.lt szq29)
  have sz_bb29 : h0.size ≤ bb29 := Nat.le_trans (Nat.le_trans (Nat.le_trans (Nat.le_trans (Nat.le_trans (Nat.le_trans (Nat.le_refl _) E1.1) K3.1) E5.1) K6.1) K15.1) szq29
  obtain ⟨Eob31, F0ob31, F1ob31, F2ob31⟩ := id P029
  obtain ⟨T32, h32, X32, e32, E32, A32, D32, -, st32⟩ := newO X29 hx hZ1 hown1 (ow hw 117 rfl) (ow hw 118 rfl) (ow hw 119 rfl) rfl (g := (mkF m 98 #[.val (.int p1), .val (.long q1), .second, .val (.long q2), .second, .val (.long q3), .second, .val (.long q4), .second, .val (.int nn), .val (.int cn), .val (.long t1), .second, .val (.long t2), .second, .val (.long t3), .second, .val (.long t4), .second, .val (.ref b1), .unset, .unset, .unset, .unset] [])) rfl (hb hby at_98) (by decide) (by decide)
  obtain ⟨b32, g_b32⟩ : ∃ z, z = T29.heap.size := ⟨_, rfl⟩
  rw [← g_b32] at A32 D32 st32
  have g0_b32 : n0 ≤ b32 := Nat.le_trans (Nat.le_trans (Nat.le_trans (Nat.le_trans (Nat.le_trans (Nat.le_trans (Nat.le_trans Z0 E1.1) K3.1) E5.1) K6.1) K15.1) K29.1) (Nat.le_of_eq g_b32.symm)
  have sz_b32 : h0.size ≤ b32 := Nat.le_trans (Nat.le_trans (Nat.le_trans (Nat.le_trans (Nat.le_trans (Nat.le_trans (Nat.le_trans (Nat.le_refl _) E1.1) K3.1) E5.1) K6.1) K15.1) K29.1) (Nat.le_of_eq g_b32.symm)
  have ne_b1_b32 : b1 ≠ b32 := Nat.ne_of_lt (Nat.lt_of_lt_of_le Eob31.lt (Nat.le_of_eq g_b32.symm))
  have c33 := Eob16.keep K29
  have ne_b5_b32 : b5 ≠ b32 := Nat.ne_of_lt (Nat.lt_of_lt_of_le c33.lt (Nat.le_of_eq g_b32.symm))
  have c34 := c30.keep K29
  have ne_bb6_b32 : bb6 ≠ b32 := Nat.ne_of_lt (Nat.lt_of_lt_of_le c34.lt (Nat.le_of_eq g_b32.symm))
  have ne_bb29_b32 : bb29 ≠ b32 := Nat.ne_of_lt (Nat.lt_of_lt_of_le VV29.lt (Nat.le_of_eq g_b32.symm))
  have F_counts_b32 : Fld Z h32 b32 "com/example/steady_sluice/steadysluice/RuleSet" "counts" "[I" .null := D32 (Or.inr (ow hw 135 rfl)) (ty := (.array .int)) (by decide)
  have F_periodNanos_b32 : Fld Z h32 b32 "com/example/steady_sluice/steadysluice/RuleSet" "periodNanos" "[J" .null := D32 (Or.inr (ow hw 138 rfl)) (ty := (.array .long)) (by decide)
  have F_largestCount_b32 : Fld Z h32 b32 "com/example/steady_sluice/steadysluice/RuleSet" "largestCount" "I" (.int (0 : Int32)) := D32 (Or.inr (ow hw 194 rfl)) (ty := .int) (by decide)
  have F_smallestCount_b32 : Fld Z h32 b32 "com/example/steady_sluice/steadysluice/RuleSet" "smallestCount" "I" (.int (0 : Int32)) := D32 (Or.inr (ow hw 196 rfl)) (ty := .int) (by decide)
  have F_longestPeriodNanos_b32 : Fld Z h32 b32 "com/example/steady_sluice/steadysluice/RuleSet" "longestPeriodNanos" "J" (.long (0 : Int64)) := D32 (Or.inr (ow hw 198 rfl)) (ty := .long) (by decide)
  have c35 := Eob31.ext E32
  have c36 := F0ob31.ext E32
  have c37 := F1ob31.ext E32
  have c38 := F2ob31.ext E32
  have c39 := VV29.ext E32
  have c40 := c33.ext E32
  have c41 := F0ob16.keep K29 (ninS (Ne.symm ne_b1_b5) nin0)
  have c42 := c41.ext E32
  have c43 := F1ob16.keep K29 (ninS (Ne.symm ne_b1_b5) nin0)
  have c44 := c43.ext E32
  have c45 := c34.ext E32
  have c46 := F0ob8.keep K15 (ninS (Ne.symm ne_b5_bb6) nin0)
  have c47 := c46.keep K29 (ninS (Ne.symm ne_b1_bb6) nin0)
  have c48 := c47.ext E32
  have c49 := F1ob8.keep K15 (ninS (Ne.symm ne_b5_bb6) nin0)
  have c50 := c49.keep K29 (ninS (Ne.symm ne_b1_bb6) nin0)
  have c51 := c50.ext E32
  obtain ⟨_, _, ⟨T52, L52, k52, n52⟩, -, X52, ⟨Lc52, hQ52, l52, y52, z52⟩, st52⟩ := X32.specialBack hx (y := nm_18) rfl hown1 (mvT hZ1 (ow hw 120 rfl)) (mvT hZ1 (ow hw 121 rfl)) (mvT hZ1 (ow hw 122 rfl)) (by decide) (backOf (W := 1) (rm18 l Z a0 hw [] b32 b1 bb29 kk29 b5 bb6 ((0 : Int32) + (1 : Int32)) cn h32 n0 (Nat.le_trans (Nat.le_trans (Nat.le_trans (Nat.le_trans (Nat.le_trans (Nat.le_trans (Nat.le_trans Z0 E1.1) K3.1) E5.1) K6.1) K15.1) K29.1) E32.1) g0_b32 ⟨A32, F_counts_b32, F_periodNanos_b32, F_largestCount_b32, F_smallestCount_b32, F_longestPeriodNanos_b32⟩ ⟨c35, c36, c37, c38⟩ c39 ⟨c40, c42, c44⟩ ⟨c45, c48, c51⟩ hc1 hc2) hZ1 (ow hw 122 rfl) (ow hw 119 rfl) (by decide) (by decide)) (g := (mkF m 104 #[.val (.int p1), .val (.long q1), .second, .val (.long q2), .second, .val (.long q3), .second, .val (.long q4), .second, .val (.int nn), .val (.int cn), .val (.long t1), .second, .val (.long t2), .second, .val (.long t3), .second, .val (.long t4), .second, .val (.ref b1), .unset, .unset, .unset, .unset] [(.ref b1), (.ref b32), (.ref b32)])) rfl (by rw [hml]; rfl) (Steps.refl _) (a := b32) (argsL := [(.ref b1)]) (rest := [(.ref b32)]) (lenOf pd_13 rfl) rfl (by show 2 * 0 + _ ≤ _; exact Nat.le_of_eq rfl) (hb hby at_104) (fun _ _ => ⟨rfl, e32, (by decide : 7 + 2 ≤ _), (by decide : 50 + 2 ≤ _)⟩)
  dsimp only [Pt.U, Pt.locs, Pt.cells, Pt.slots] at X52 l52 y52 z52 st52 hQ52
  subst l52 y52 z52
  obtain ⟨rfl, N52q, K52, c152, c252, P052⟩ := hQ52
  have N52 := Fr.app N29 N52q
  obtain ⟨Eob53, F0ob53, F1ob53, F2ob53, F3ob53, F4ob53⟩ := id P052
  obtain ⟨T54, h54, X54, e54, E54, A54, D54, -, st54⟩ := newO X52 hx hZ1 hown1 (ow hw 199 rfl) (ow hw 200 rfl) (ow hw 201 rfl) rfl (g := (mkF m 109 #[.val (.int p1), .val (.long q1), .second, .val (.long q2), .second, .val (.long q3), .second, .val (.long q4), .second, .val (.int nn), .val (.int cn), .val (.long t1), .second, .val (.long t2), .second, .val (.long t3), .second, .val (.long t4), .second, .val (.ref b1), .val (.ref b32), .unset, .unset, .unset] [])) rfl (hb hby at_109) (by decide) (by decide)
  obtain ⟨b54, g_b54⟩ : ∃ z, z = T52.heap.size := ⟨_, rfl⟩
  rw [← g_b54] at A54 D54 st54
  have g0_b54 : n0 ≤ b54 := Nat.le_trans (Nat.le_trans (Nat.le_trans (Nat.le_trans (Nat.le_trans (Nat.le_trans (Nat.le_trans (Nat.le_trans (Nat.le_trans Z0 E1.1) K3.1) E5.1) K6.1) K15.1) K29.1) E32.1) K52.1) (Nat.le_of_eq g_b54.symm)
  have sz_b54 : h0.size ≤ b54 := Nat.le_trans (Nat.le_trans (Nat.le_trans (Nat.le_trans (Nat.le_trans (Nat.le_trans (Nat.le_trans (Nat.le_trans (Nat.le_trans (Nat.le_refl _) E1.1) K3.1) E5.1) K6.1) K15.1) K29.1) E32.1) K52.1) (Nat.le_of_eq g_b54.symm)
  have c55 := c35.keep K52
  have ne_b1_b54 : b1 ≠ b54 := Nat.ne_of_lt (Nat.lt_of_lt_of_le c55.lt (Nat.le_of_eq g_b54.symm))
  have c56 := c40.keep K52
  have ne_b5_b54 : b5 ≠ b54 := Nat.ne_of_lt (Nat.lt_of_lt_of_le c56.lt (Nat.le_of_eq g_b54.symm))
  have c57 := c45.keep K52
  have ne_bb6_b54 : bb6 ≠ b54 := Nat.ne_of_lt (Nat.lt_of_lt_of_le c57.lt (Nat.le_of_eq g_b54.symm))
  have c58 := c39.keep K52 (ninS ne_bb29_b32 nin0)
  have ne_bb29_b54 : bb29 ≠ b54 := Nat.ne_of_lt (Nat.lt_of_lt_of_le c58.lt (Nat.le_of_eq g_b54.symm))
  have ne_b32_b54 : b32 ≠ b54 := Nat.ne_of_lt (Nat.lt_of_lt_of_le Eob53.lt (Nat.le_of_eq g_b54.symm))
  have F_times_b54 : Fld Z h54 b54 "com/example/steady_sluice/steadysluice/Scope" "times" "[J" .null := D54 (Or.inl (ow hw 213 rfl)) (ty := (.array .long)) (by decide)
  have F_head_b54 : Fld Z h54 b54 "com/example/steady_sluice/steadysluice/Scope" "head" "I" (.int (0 : Int32)) := D54 (Or.inl (ow hw 225 rfl)) (ty := .int) (by decide)
  have c59 := Eob53.ext E54
  have c60 := F2ob53.ext E54
  obtain ⟨_, _, ⟨T61, L61, k61, n61⟩, -, X61, ⟨Lc61, hQ61, l61, y61, z61⟩, st61⟩ := X54.specialBack hx (y := nm_32) rfl hown1 (mvT hZ1 (ow hw 202 rfl)) (mvT hZ1 (ow hw 203 rfl)) (mvT hZ1 (ow hw 204 rfl)) (by decide) (backOf (W := 1) (rm32 l Z a0 hw [] b54 b32 cn n h54 n0 (Nat.le_trans (Nat.le_trans (Nat.le_trans (Nat.le_trans (Nat.le_trans (Nat.le_trans (Nat.le_trans (Nat.le_trans (Nat.le_trans Z0 E1.1) K3.1) E5.1) K6.1) K15.1) K29.1) E32.1) K52.1) E54.1) g0_b54 ⟨A54, F_times_b54, F_head_b54⟩ hn (hmin h54 n0 (Nat.le_trans (Nat.le_trans (Nat.le_trans (Nat.le_trans (Nat.le_trans (Nat.le_trans (Nat.le_trans (Nat.le_trans (Nat.le_trans Z0 E1.1) K3.1) E5.1) K6.1) K15.1) K29.1) E32.1) K52.1) E54.1)) c59 c60) hZ1 (ow hw 204 rfl) (ow hw 201 rfl) (by decide) (by decide)) (g := (mkF m 115 #[.val (.int p1), .val (.long q1), .second, .val (.long q2), .second, .val (.long q3), .second, .val (.long q4), .second, .val (.int nn), .val (.int cn), .val (.long t1), .second, .val (.long t2), .second, .val (.long t3), .second, .val (.long t4), .second, .val (.ref b1), .val (.ref b32), .unset, .unset, .unset] [(.ref b32), (.ref b54), (.ref b54)])) rfl (by rw [hml]; rfl) (Steps.refl _) (a := b54) (argsL := [(.ref b32)]) (rest := [(.ref b54)]) (lenOf pd_21 rfl) rfl (by show 2 * 0 + _ ≤ _; exact Nat.le_of_eq rfl) (hb hby at_115) (fun _ _ => ⟨rfl, e54, (by decide : 10 + 1 ≤ _), (by decide : 54 + 16 ≤ _)⟩)
  dsimp only [Pt.U, Pt.locs, Pt.cells, Pt.slots] at X61 l61 y61 z61 st61 hQ61
  subst l61 y61 z61
  obtain ⟨rfl, N61q, K61, ar61, g0_ar61, szq61, P061, FF61⟩ := hQ61
  have N61 := Fr.app N52 N61q
  have c62 := c55.ext E54
  have ne_b1_ar61 : b1 ≠ ar61 := Nat.ne_of_lt (Nat.lt_of_lt_of_le c62.lt szq61)
  have c63 := c56.ext E54
  have ne_b5_ar61 : b5 ≠ ar61 := Nat.ne_of_lt (Nat.lt_of_lt_of_le c63.lt szq61)
  have c64 := c57.ext E54
  have ne_bb6_ar61 : bb6 ≠ ar61 := Nat.ne_of_lt (Nat.lt_of_lt_of_le c64.lt szq61)
  have c65 := c58.ext E54
  have ne_bb29_ar61 : bb29 ≠ ar61 := Nat.ne_of_lt (Nat.lt_of_lt_of_le c65.lt szq61)
  have ne_b32_ar61 : b32 ≠ ar61 := Nat.ne_of_lt (Nat.lt_of_lt_of_le c59.lt szq61)
  have ne_b54_ar61 : b54 ≠ ar61 := Nat.ne_of_lt (Nat.lt_of_lt_of_le A54.lt szq61)
  have sz_ar61 : h0.size ≤ ar61 := Nat.le_trans (Nat.le_trans (Nat.le_trans (Nat.le_trans (Nat.le_trans (Nat.le_trans (Nat.le_trans (Nat.le_trans (Nat.le_trans (Nat.le_trans (Nat.le_refl _) E1.1) K3.1) E5.1) K6.1) K15.1) K29.1) E32.1) K52.1) E54.1) szq61
  obtain ⟨Eob66, F0ob66, F1ob66⟩ := id P061
  have c67 := c59.keep K61
  have c68 := c60.keep K61 (ninS ne_b32_b54 nin0)
  have c69 := F3ob53.ext E54
  have c70 := c69.keep K61 (ninS ne_b32_b54 nin0)
  have c71 := F4ob53.ext E54
  have c72 := c71.keep K61 (ninS ne_b32_b54 nin0)
  obtain ⟨cq73, kq73, q73a, q73b, q73c⟩ := isOf hZ1 rfl Eob66
  obtain ⟨_, _, ⟨T73, L73, k73, n73⟩, -, X73, ⟨Lc73, hQ73, l73, y73, z73⟩, st73⟩ := X61.virtualBack hx (y := nm_35) (z := nm_35) hown1 (mvT hZ1 (ow hw 219 rfl)) (mvT hZ1 (ow hw 220 rfl)) (notFace_of_selects (args := #[]) (mvT hZ1 (ow hw 222 rfl))) (mvT hZ1 (ow hw 222 rfl)) (mvT hZ1 (ow hw 221 rfl)) (by decide) (backOf (W := 0) (rm35 l Z a0 hw [] b54 b32 ar61 n (fun _ => (-9223372036854775808 : Int64)) 0 cn t1 T61.heap n0 (Nat.le_trans (Nat.le_trans (Nat.le_trans (Nat.le_trans (Nat.le_trans (Nat.le_trans (Nat.le_trans (Nat.le_trans (Nat.le_trans (Nat.le_trans Z0 E1.1) K3.1) E5.1) K6.1) K15.1) K29.1) E32.1) K52.1) E54.1) K61.1) g0_b54 g0_ar61 hn hn1 ⟨Eob66, F0ob66, F1ob66⟩ FF61 c67 c68 c70 c72 (fun q => by have e := hcap q; subst e; rfl)) hZ1 (ow hw 223 rfl) (ow hw 201 rfl) (by decide) (by decide)) q73a q73c (g := (mkF m 126 #[.val (.int p1), .val (.long q1), .second, .val (.long q2), .second, .val (.long q3), .second, .val (.long q4), .second, .val (.int nn), .val (.int cn), .val (.long t1), .second, .val (.long t2), .second, .val (.long t3), .second, .val (.long t4), .second, .val (.ref b1), .val (.ref b32), .val (.ref b54), .unset, .unset] [(.long t1), (.ref b32), (.ref b54)])) rfl (by rw [hml]; rfl) (Steps.refl _) (argsL := [(.ref b32), (.long t1)]) (rest := []) (lenOf pd_23 rfl) rfl (by show 2 * 0 + _ ≤ _; exact Nat.le_of_eq rfl) (hb hby at_126) (fun _ _ => ⟨rfl, rfl, (by decide : 11 + 0 ≤ _), (by decide : 70 + 0 ≤ _)⟩)
  dsimp only [Pt.U, Pt.locs, Pt.cells, Pt.slots] at X73 l73 y73 z73 st73 hQ73
  subst l73 y73 z73
  obtain ⟨rfl, N73q, K73, P073, FF73⟩ := hQ73
  have N73 := Fr.app N61 N73q
  obtain ⟨Eob74, F0ob74, F1ob74⟩ := id P073
  have c75 := c67.keep K73
  have c76 := c68.keep K73 (ninS ne_b32_b54 (ninS ne_b32_ar61 nin0))
  have c77 := c70.keep K73 (ninS ne_b32_b54 (ninS ne_b32_ar61 nin0))
  have c78 := c72.keep K73 (ninS ne_b32_b54 (ninS ne_b32_ar61 nin0))
  obtain ⟨cq79, kq79, q79a, q79b, q79c⟩ := isOf hZ1 rfl Eob74
  obtain ⟨_, _, ⟨T79, L79, k79, n79⟩, -, X79, ⟨Lc79, hQ79, l79, y79, z79⟩, st79⟩ := X73.virtualBack hx (y := nm_35) (z := nm_35) hown1 (mvT hZ1 (ow hw 219 rfl)) (mvT hZ1 (ow hw 220 rfl)) (notFace_of_selects (args := #[]) (mvT hZ1 (ow hw 222 rfl))) (mvT hZ1 (ow hw 222 rfl)) (mvT hZ1 (ow hw 221 rfl)) (by decide) (backOf (W := 0) (rm35 l Z a0 hw [] b54 b32 ar61 n (fun j => if j = 0 then t1 else (fun _ => (-9223372036854775808 : Int64)) j) (own_md (0 + 1) n) cn t2 T73.heap n0 (Nat.le_trans (Nat.le_trans (Nat.le_trans (Nat.le_trans (Nat.le_trans (Nat.le_trans (Nat.le_trans (Nat.le_trans (Nat.le_trans (Nat.le_trans (Nat.le_trans Z0 E1.1) K3.1) E5.1) K6.1) K15.1) K29.1) E32.1) K52.1) E54.1) K61.1) K73.1) g0_b54 g0_ar61 hn (own_mdlt hn1) ⟨Eob74, F0ob74, F1ob74⟩ FF73 c75 c76 c77 c78 (fun q => by have e := hcap q; subst e; rfl)) hZ1 (ow hw 223 rfl) (ow hw 201 rfl) (by decide) (by decide)) q79a q79c (g := (mkF m 145 #[.val (.int p1), .val (.long q1), .second, .val (.long q2), .second, .val (.long q3), .second, .val (.long q4), .second, .val (.int nn), .val (.int cn), .val (.long t1), .second, .val (.long t2), .second, .val (.long t3), .second, .val (.long t4), .second, .val (.ref b1), .val (.ref b32), .val (.ref b54), .val (.long t1), .second] [(.long t2), (.ref b32), (.ref b54)])) rfl (by rw [hml]; rfl) (Steps.refl _) (argsL := [(.ref b32), (.long t2)]) (rest := []) (lenOf pd_23 rfl) rfl (by show 2 * 0 + _ ≤ _; exact Nat.le_of_eq rfl) (hb hby at_145) (fun _ _ => ⟨rfl, rfl, (by decide : 11 + 0 ≤ _), (by decide : 70 + 0 ≤ _)⟩)
  dsimp only [Pt.U, Pt.locs, Pt.cells, Pt.slots] at X79 l79 y79 z79 st79 hQ79
  subst l79 y79 z79
  obtain ⟨rfl, N79q, K79, P079, FF79⟩ := hQ79
  have N79 := Fr.app N73 N79q
  obtain ⟨Eob80, F0ob80, F1ob80⟩ := id P079
  have c81 := c75.keep K79
  have c82 := c76.keep K79 (ninS ne_b32_b54 (ninS ne_b32_ar61 nin0))
  have c83 := c77.keep K79 (ninS ne_b32_b54 (ninS ne_b32_ar61 nin0))
  have c84 := c78.keep K79 (ninS ne_b32_b54 (ninS ne_b32_ar61 nin0))
  obtain ⟨cq85, kq85, q85a, q85b, q85c⟩ := isOf hZ1 rfl Eob80
  obtain ⟨_, _, ⟨T85, L85, k85, n85⟩, -, X85, ⟨Lc85, hQ85, l85, y85, z85⟩, st85⟩ := X79.virtualBack hx (y := nm_35) (z := nm_35) hown1 (mvT hZ1 (ow hw 219 rfl)) (mvT hZ1 (ow hw 220 rfl)) (notFace_of_selects (args := #[]) (mvT hZ1 (ow hw 222 rfl))) (mvT hZ1 (ow hw 222 rfl)) (mvT hZ1 (ow hw 221 rfl)) (by decide) (backOf (W := 0) (rm35 l Z a0 hw [] b54 b32 ar61 n (fun j => if j = (own_md (0 + 1) n) then t2 else (fun j => if j = 0 then t1 else (fun _ => (-9223372036854775808 : Int64)) j) j) (own_md ((own_md (0 + 1) n) + 1) n) cn t3 T79.heap n0 (Nat.le_trans (Nat.le_trans (Nat.le_trans (Nat.le_trans (Nat.le_trans (Nat.le_trans (Nat.le_trans (Nat.le_trans (Nat.le_trans (Nat.le_trans (Nat.le_trans (Nat.le_trans Z0 E1.1) K3.1) E5.1) K6.1) K15.1) K29.1) E32.1) K52.1) E54.1) K61.1) K73.1) K79.1) g0_b54 g0_ar61 hn (own_mdlt (own_mdlt hn1)) ⟨Eob80, F0ob80, F1ob80⟩ FF79 c81 c82 c83 c84 (fun q => by have e := hcap q; subst e; rfl)) hZ1 (ow hw 223 rfl) (ow hw 201 rfl) (by decide) (by decide)) q85a q85c (g := (mkF m 164 #[.val (.int p1), .val (.long q1), .second, .val (.long q2), .second, .val (.long q3), .second, .val (.long q4), .second, .val (.int nn), .val (.int cn), .val (.long t1), .second, .val (.long t2), .second, .val (.long t3), .second, .val (.long t4), .second, .val (.ref b1), .val (.ref b32), .val (.ref b54), .val (.long t2), .second] [(.long t3), (.ref b32), (.ref b54)])) rfl (by rw [hml]; rfl) (Steps.refl _) (argsL := [(.ref b32), (.long t3)]) (rest := []) (lenOf pd_23 rfl) rfl (by show 2 * 0 + _ ≤ _; exact Nat.le_of_eq rfl) (hb hby at_164) (fun _ _ => ⟨rfl, rfl, (by decide : 11 + 0 ≤ _), (by decide : 70 + 0 ≤ _)⟩)
  dsimp only [Pt.U, Pt.locs, Pt.cells, Pt.slots] at X85 l85 y85 z85 st85 hQ85
  subst l85 y85 z85
  obtain ⟨rfl, N85q, K85, P085, FF85⟩ := hQ85
  have N85 := Fr.app N79 N85q
  obtain ⟨Eob86, F0ob86, F1ob86⟩ := id P085
  have c87 := c81.keep K85
  have c88 := c82.keep K85 (ninS ne_b32_b54 (ninS ne_b32_ar61 nin0))
  have c89 := c83.keep K85 (ninS ne_b32_b54 (ninS ne_b32_ar61 nin0))
  have c90 := c84.keep K85 (ninS ne_b32_b54 (ninS ne_b32_ar61 nin0))
  obtain ⟨cq91, kq91, q91a, q91b, q91c⟩ := isOf hZ1 rfl Eob86
  obtain ⟨_, _, ⟨T91, L91, k91, n91⟩, -, X91, ⟨Lc91, hQ91, l91, y91, z91⟩, st91⟩ := X85.virtualBack hx (y := nm_35) (z := nm_35) hown1 (mvT hZ1 (ow hw 219 rfl)) (mvT hZ1 (ow hw 220 rfl)) (notFace_of_selects (args := #[]) (mvT hZ1 (ow hw 222 rfl))) (mvT hZ1 (ow hw 222 rfl)) (mvT hZ1 (ow hw 221 rfl)) (by decide) (backOf (W := 0) (rm35 l Z a0 hw [] b54 b32 ar61 n (fun j => if j = (own_md ((own_md (0 + 1) n) + 1) n) then t3 else (fun j => if j = (own_md (0 + 1) n) then t2 else (fun j => if j = 0 then t1 else (fun _ => (-9223372036854775808 : Int64)) j) j) j) (own_md ((own_md ((own_md (0 + 1) n) + 1) n) + 1) n) cn t4 T85.heap n0 (Nat.le_trans (Nat.le_trans (Nat.le_trans (Nat.le_trans (Nat.le_trans (Nat.le_trans (Nat.le_trans (Nat.le_trans (Nat.le_trans (Nat.le_trans (Nat.le_trans (Nat.le_trans (Nat.le_trans Z0 E1.1) K3.1) E5.1) K6.1) K15.1) K29.1) E32.1) K52.1) E54.1) K61.1) K73.1) K79.1) K85.1) g0_b54 g0_ar61 hn (own_mdlt (own_mdlt (own_mdlt hn1))) ⟨Eob86, F0ob86, F1ob86⟩ FF85 c87 c88 c89 c90 (fun q => by have e := hcap q; subst e; rfl)) hZ1 (ow hw 223 rfl) (ow hw 201 rfl) (by decide) (by decide)) q91a q91c (g := (mkF m 183 #[.val (.int p1), .val (.long q1), .second, .val (.long q2), .second, .val (.long q3), .second, .val (.long q4), .second, .val (.int nn), .val (.int cn), .val (.long t1), .second, .val (.long t2), .second, .val (.long t3), .second, .val (.long t4), .second, .val (.ref b1), .val (.ref b32), .val (.ref b54), .val (.long t3), .second] [(.long t4), (.ref b32), (.ref b54)])) rfl (by rw [hml]; rfl) (Steps.refl _) (argsL := [(.ref b32), (.long t4)]) (rest := []) (lenOf pd_23 rfl) rfl (by show 2 * 0 + _ ≤ _; exact Nat.le_of_eq rfl) (hb hby at_183) (fun _ _ => ⟨rfl, rfl, (by decide : 11 + 0 ≤ _), (by decide : 70 + 0 ≤ _)⟩)
  dsimp only [Pt.U, Pt.locs, Pt.cells, Pt.slots] at X91 l91 y91 z91 st91 hQ91
  subst l91 y91 z91
  obtain ⟨rfl, N91q, K91, P091, FF91⟩ := hQ91
  have N91 := Fr.app N85 N91q
  obtain ⟨Eob92, F0ob92, F1ob92⟩ := id P091
  obtain ⟨cq93, kq93, q93a, q93b, q93c⟩ := isOf hZ1 rfl Eob92
  obtain ⟨_, _, ⟨T93, L93, k93, n93⟩, -, X93, ⟨Lc93, hQ93, l93, y93, z93⟩, st93⟩ := X91.virtualBack hx (y := nm_37) (z := nm_37) hown1 (mvT hZ1 (ow hw 230 rfl)) (mvT hZ1 (ow hw 231 rfl)) (notFace_of_selects (args := #[]) (mvT hZ1 (ow hw 233 rfl))) (mvT hZ1 (ow hw 233 rfl)) (mvT hZ1 (ow hw 232 rfl)) (by decide) (backOf (W := 0) (rm37 l Z a0 hw [] b54 ar61 n (fun j => if j = (own_md ((own_md ((own_md (0 + 1) n) + 1) n) + 1) n) then t4 else (fun j => if j = (own_md ((own_md (0 + 1) n) + 1) n) then t3 else (fun j => if j = (own_md (0 + 1) n) then t2 else (fun j => if j = 0 then t1 else (fun _ => (-9223372036854775808 : Int64)) j) j) j) j) (own_md ((own_md ((own_md ((own_md (0 + 1) n) + 1) n) + 1) n) + 1) n) T91.heap n0 (Nat.le_trans (Nat.le_trans (Nat.le_trans (Nat.le_trans (Nat.le_trans (Nat.le_trans (Nat.le_trans (Nat.le_trans (Nat.le_trans (Nat.le_trans (Nat.le_trans (Nat.le_trans (Nat.le_trans (Nat.le_trans Z0 E1.1) K3.1) E5.1) K6.1) K15.1) K29.1) E32.1) K52.1) E54.1) K61.1) K73.1) K79.1) K85.1) K91.1) hn (own_mdlt (own_mdlt (own_mdlt (own_mdlt hn1)))) ⟨Eob92, F0ob92, F1ob92⟩ FF91) hZ1 (ow hw 234 rfl) (ow hw 201 rfl) (by decide) (by decide)) q93a q93c (g := (mkF m 192 #[.val (.int p1), .val (.long q1), .second, .val (.long q2), .second, .val (.long q3), .second, .val (.long q4), .second, .val (.int nn), .val (.int cn), .val (.long t1), .second, .val (.long t2), .second, .val (.long t3), .second, .val (.long t4), .second, .val (.ref b1), .val (.ref b32), .val (.ref b54), .val (.long t4), .second] [(.ref b54)])) rfl (by rw [hml]; rfl) (Steps.refl _) (argsL := []) (rest := []) (lenOf pd_18 rfl) rfl (by show 2 * 0 + _ ≤ _; exact Nat.le_of_eq rfl) (hb hby at_192) (fun _ _ => ⟨rfl, rfl, (by decide : 11 + 0 ≤ _), (by decide : 70 + 0 ≤ _)⟩)
  dsimp only [Pt.U, Pt.locs, Pt.cells, Pt.slots] at X93 l93 y93 z93 st93 hQ93
  subst l93 y93 z93
  obtain ⟨rfl, N93q, e93⟩ := hQ93
  have N93 := Fr.app N91 N93q
  obtain ⟨fsq, hr, hrun, hended, hRW⟩ := X93.leaveW hS (by rw [e93]; exact (Nat.le_trans (Nat.le_trans (Nat.le_trans (Nat.le_trans (Nat.le_trans (Nat.le_trans (Nat.le_trans (Nat.le_trans (Nat.le_trans (Nat.le_refl _) K29.1) E32.1) K52.1) E54.1) K61.1) K73.1) K79.1) K85.1) K91.1)) (v := some (.int (1 : Int32))) (fun h => by rw [Bd.returns] at h; cases h)
  refine ⟨_, _, pre0 _ ?_, hrun, hended, _, _, rfl, ?_, hRW.1, hRW.2.1, hRW.2.2.1, hRW.2.2.2.mono (by decide) (by decide)⟩
  · show Steps p.tables e below (s₁.setTop (mkF m 0 #[.val (.int p1), .val (.long q1), .second, .val (.long q2), .second, .val (.long q3), .second, .val (.long q4), .second, .unset, .unset, .unset, .unset, .unset, .unset, .unset, .unset, .unset, .unset, .unset, .unset, .unset, .unset, .unset] [])) _
    refine XS.iconst X0.here hx rfl (hb hby at_0) ?_
    refine XS.iloadN X0.here hx rfl (hb hby at_1) rfl ?_
    refine XS.iconst X0.here hx rfl (hb hby at_2) ?_
    show Steps p.tables e below (s₁.setTop (mkF m 3 #[.val (.int p1), .val (.long q1), .second, .val (.long q2), .second, .val (.long q3), .second, .val (.long q4), .second, .unset, .unset, .unset, .unset, .unset, .unset, .unset, .unset, .unset, .unset, .unset, .unset, .unset, .unset, .unset] [(.int (3 : Int32)), (.int p1), (.int (1 : Int32))])) _
    refine XS.iand X0.here hx rfl (hb hby at_3) rfl ?_
    refine XS.iadd X0.here hx rfl (hb hby at_4) rfl ?_
    show Steps p.tables e below (s₁.setTop (mkF m 5 #[.val (.int p1), .val (.long q1), .second, .val (.long q2), .second, .val (.long q3), .second, .val (.long q4), .second, .unset, .unset, .unset, .unset, .unset, .unset, .unset, .unset, .unset, .unset, .unset, .unset, .unset, .unset, .unset] [(.int ((1 : Int32) + (p1 &&& (3 : Int32))))])) _
    rw [hnnx]
    refine XS.istore X0.here hx rfl (hb hby at_5) rfl (l' := #[.val (.int p1), .val (.long q1), .second, .val (.long q2), .second, .val (.long q3), .second, .val (.long q4), .second, .val (.int nn), .unset, .unset, .unset, .unset, .unset, .unset, .unset, .unset, .unset, .unset, .unset, .unset, .unset, .unset]) rfl ?_
    show Steps p.tables e below (s₁.setTop (mkF m 7 #[.val (.int p1), .val (.long q1), .second, .val (.long q2), .second, .val (.long q3), .second, .val (.long q4), .second, .val (.int nn), .unset, .unset, .unset, .unset, .unset, .unset, .unset, .unset, .unset, .unset, .unset, .unset, .unset, .unset] [])) _
    refine XS.iconst X0.here hx rfl (hb hby at_7) ?_
    refine XS.iloadN X0.here hx rfl (hb hby at_8) rfl ?_
    refine XS.iconst X0.here hx rfl (hb hby at_9) ?_
    show Steps p.tables e below (s₁.setTop (mkF m 10 #[.val (.int p1), .val (.long q1), .second, .val (.long q2), .second, .val (.long q3), .second, .val (.long q4), .second, .val (.int nn), .unset, .unset, .unset, .unset, .unset, .unset, .unset, .unset, .unset, .unset, .unset, .unset, .unset, .unset] [(.int (2 : Int32)), (.int p1), (.int (1 : Int32))])) _
    refine XS.iushr X0.here hx rfl (hb hby at_10) rfl ?_
    refine XS.bipush X0.here hx rfl (hb hby at_11) ?_
    refine XS.iand X0.here hx rfl (hb hby at_13) rfl ?_
    show Steps p.tables e below (s₁.setTop (mkF m 14 #[.val (.int p1), .val (.long q1), .second, .val (.long q2), .second, .val (.long q3), .second, .val (.long q4), .second, .val (.int nn), .unset, .unset, .unset, .unset, .unset, .unset, .unset, .unset, .unset, .unset, .unset, .unset, .unset, .unset] [(.int (((p1.toUInt32 >>> ((2 : Int32) &&& 31).toUInt32).toInt32) &&& (31 : Int32))), (.int (1 : Int32))])) _
    refine XS.iadd X0.here hx rfl (hb hby at_14) rfl ?_
    show Steps p.tables e below (s₁.setTop (mkF m 15 #[.val (.int p1), .val (.long q1), .second, .val (.long q2), .second, .val (.long q3), .second, .val (.long q4), .second, .val (.int nn), .unset, .unset, .unset, .unset, .unset, .unset, .unset, .unset, .unset, .unset, .unset, .unset, .unset, .unset] [(.int ((1 : Int32) + (((p1.toUInt32 >>> ((2 : Int32) &&& 31).toUInt32).toInt32) &&& (31 : Int32))))])) _
    rw [hcnx]
    refine XS.istore X0.here hx rfl (hb hby at_15) rfl (l' := #[.val (.int p1), .val (.long q1), .second, .val (.long q2), .second, .val (.long q3), .second, .val (.long q4), .second, .val (.int nn), .val (.int cn), .unset, .unset, .unset, .unset, .unset, .unset, .unset, .unset, .unset, .unset, .unset, .unset, .unset]) rfl ?_
    refine XS.lloadN X0.here hx rfl (hb hby at_17) rfl ?_
    show Steps p.tables e below (s₁.setTop (mkF m 18 #[.val (.int p1), .val (.long q1), .second, .val (.long q2), .second, .val (.long q3), .second, .val (.long q4), .second, .val (.int nn), .val (.int cn), .unset, .unset, .unset, .unset, .unset, .unset, .unset, .unset, .unset, .unset, .unset, .unset, .unset] [(.long q1)])) _
    refine X0.ldc2Long hx hown (mvT hZ (ow hw 0 rfl)) (g := (mkF m 18 #[.val (.int p1), .val (.long q1), .second, .val (.long q2), .second, .val (.long q3), .second, .val (.long q4), .second, .val (.int nn), .val (.int cn), .unset, .unset, .unset, .unset, .unset, .unset, .unset, .unset, .unset, .unset, .unset, .unset, .unset] [(.long q1)])) rfl (hb hby at_18) _ ?_
    refine XS.land X0.here hx rfl (hb hby at_21) rfl ?_
    refine XS.iconst X0.here hx rfl (hb hby at_22) ?_
    show Steps p.tables e below (s₁.setTop (mkF m 23 #[.val (.int p1), .val (.long q1), .second, .val (.long q2), .second, .val (.long q3), .second, .val (.long q4), .second, .val (.int nn), .val (.int cn), .unset, .unset, .unset, .unset, .unset, .unset, .unset, .unset, .unset, .unset, .unset, .unset, .unset] [(.int (3 : Int32)), (.long (q1 &&& (9223372036854775807 : Int64)))])) _
    refine XS.lushr X0.here hx rfl (hb hby at_23) rfl ?_
    show Steps p.tables e below (s₁.setTop (mkF m 24 #[.val (.int p1), .val (.long q1), .second, .val (.long q2), .second, .val (.long q3), .second, .val (.long q4), .second, .val (.int nn), .val (.int cn), .unset, .unset, .unset, .unset, .unset, .unset, .unset, .unset, .unset, .unset, .unset, .unset, .unset] [(.long (((q1 &&& (9223372036854775807 : Int64)).toUInt64 >>> ((3 : Int32) &&& 0x3f).toInt64.toUInt64).toInt64))])) _
    rw [h_t1]
    refine XS.lstore X0.here hx rfl (hb hby at_24) rfl (l' := #[.val (.int p1), .val (.long q1), .second, .val (.long q2), .second, .val (.long q3), .second, .val (.long q4), .second, .val (.int nn), .val (.int cn), .val (.long t1), .second, .unset, .unset, .unset, .unset, .unset, .unset, .unset, .unset, .unset, .unset, .unset]) rfl ?_
    refine XS.lload X0.here hx rfl (hb hby at_26) rfl ?_
    show Steps p.tables e below (s₁.setTop (mkF m 28 #[.val (.int p1), .val (.long q1), .second, .val (.long q2), .second, .val (.long q3), .second, .val (.long q4), .second, .val (.int nn), .val (.int cn), .val (.long t1), .second, .unset, .unset, .unset, .unset, .unset, .unset, .unset, .unset, .unset, .unset, .unset] [(.long t1)])) _
    refine XS.lloadN X0.here hx rfl (hb hby at_28) rfl ?_
    refine X0.ldc2Long hx hown (mvT hZ (ow hw 0 rfl)) (g := (mkF m 29 #[.val (.int p1), .val (.long q1), .second, .val (.long q2), .second, .val (.long q3), .second, .val (.long q4), .second, .val (.int nn), .val (.int cn), .val (.long t1), .second, .unset, .unset, .unset, .unset, .unset, .unset, .unset, .unset, .unset, .unset, .unset] [(.long q2), (.long t1)])) rfl (hb hby at_29) _ ?_
    refine XS.land X0.here hx rfl (hb hby at_32) rfl ?_
    show Steps p.tables e below (s₁.setTop (mkF m 33 #[.val (.int p1), .val (.long q1), .second, .val (.long q2), .second, .val (.long q3), .second, .val (.long q4), .second, .val (.int nn), .val (.int cn), .val (.long t1), .second, .unset, .unset, .unset, .unset, .unset, .unset, .unset, .unset, .unset, .unset, .unset] [(.long (q2 &&& (9223372036854775807 : Int64))), (.long t1)])) _
    refine XS.iconst X0.here hx rfl (hb hby at_33) ?_
    refine XS.lushr X0.here hx rfl (hb hby at_34) rfl ?_
    refine XS.ladd X0.here hx rfl (hb hby at_35) rfl ?_
    show Steps p.tables e below (s₁.setTop (mkF m 36 #[.val (.int p1), .val (.long q1), .second, .val (.long q2), .second, .val (.long q3), .second, .val (.long q4), .second, .val (.int nn), .val (.int cn), .val (.long t1), .second, .unset, .unset, .unset, .unset, .unset, .unset, .unset, .unset, .unset, .unset, .unset] [(.long (t1 + (((q2 &&& (9223372036854775807 : Int64)).toUInt64 >>> ((3 : Int32) &&& 0x3f).toInt64.toUInt64).toInt64)))])) _
    refine XS.lconst X0.here hx rfl (hb hby at_36) ?_
    refine XS.ladd X0.here hx rfl (hb hby at_37) rfl ?_
    show Steps p.tables e below (s₁.setTop (mkF m 38 #[.val (.int p1), .val (.long q1), .second, .val (.long q2), .second, .val (.long q3), .second, .val (.long q4), .second, .val (.int nn), .val (.int cn), .val (.long t1), .second, .unset, .unset, .unset, .unset, .unset, .unset, .unset, .unset, .unset, .unset, .unset] [(.long ((t1 + (((q2 &&& (9223372036854775807 : Int64)).toUInt64 >>> ((3 : Int32) &&& 0x3f).toInt64.toUInt64).toInt64)) + (1 : Int64)))])) _
    rw [h_t2]
    refine XS.lstore X0.here hx rfl (hb hby at_38) rfl (l' := #[.val (.int p1), .val (.long q1), .second, .val (.long q2), .second, .val (.long q3), .second, .val (.long q4), .second, .val (.int nn), .val (.int cn), .val (.long t1), .second, .val (.long t2), .second, .unset, .unset, .unset, .unset, .unset, .unset, .unset, .unset, .unset]) rfl ?_
    show Steps p.tables e below (s₁.setTop (mkF m 40 #[.val (.int p1), .val (.long q1), .second, .val (.long q2), .second, .val (.long q3), .second, .val (.long q4), .second, .val (.int nn), .val (.int cn), .val (.long t1), .second, .val (.long t2), .second, .unset, .unset, .unset, .unset, .unset, .unset, .unset, .unset, .unset] [])) _
    refine XS.lload X0.here hx rfl (hb hby at_40) rfl ?_
    refine XS.lload X0.here hx rfl (hb hby at_42) rfl ?_
    refine X0.ldc2Long hx hown (mvT hZ (ow hw 0 rfl)) (g := (mkF m 44 #[.val (.int p1), .val (.long q1), .second, .val (.long q2), .second, .val (.long q3), .second, .val (.long q4), .second, .val (.int nn), .val (.int cn), .val (.long t1), .second, .val (.long t2), .second, .unset, .unset, .unset, .unset, .unset, .unset, .unset, .unset, .unset] [(.long q3), (.long t2)])) rfl (hb hby at_44) _ ?_
    show Steps p.tables e below (s₁.setTop (mkF m 47 #[.val (.int p1), .val (.long q1), .second, .val (.long q2), .second, .val (.long q3), .second, .val (.long q4), .second, .val (.int nn), .val (.int cn), .val (.long t1), .second, .val (.long t2), .second, .unset, .unset, .unset, .unset, .unset, .unset, .unset, .unset, .unset] [(.long (9223372036854775807 : Int64)), (.long q3), (.long t2)])) _
    refine XS.land X0.here hx rfl (hb hby at_47) rfl ?_
    refine XS.iconst X0.here hx rfl (hb hby at_48) ?_
    refine XS.lushr X0.here hx rfl (hb hby at_49) rfl ?_
    show Steps p.tables e below (s₁.setTop (mkF m 50 #[.val (.int p1), .val (.long q1), .second, .val (.long q2), .second, .val (.long q3), .second, .val (.long q4), .second, .val (.int nn), .val (.int cn), .val (.long t1), .second, .val (.long t2), .second, .unset, .unset, .unset, .unset, .unset, .unset, .unset, .unset, .unset] [(.long (((q3 &&& (9223372036854775807 : Int64)).toUInt64 >>> ((3 : Int32) &&& 0x3f).toInt64.toUInt64).toInt64)), (.long t2)])) _
    refine XS.ladd X0.here hx rfl (hb hby at_50) rfl ?_
    refine XS.lconst X0.here hx rfl (hb hby at_51) ?_
    refine XS.ladd X0.here hx rfl (hb hby at_52) rfl ?_
    show Steps p.tables e below (s₁.setTop (mkF m 53 #[.val (.int p1), .val (.long q1), .second, .val (.long q2), .second, .val (.long q3), .second, .val (.long q4), .second, .val (.int nn), .val (.int cn), .val (.long t1), .second, .val (.long t2), .second, .unset, .unset, .unset, .unset, .unset, .unset, .unset, .unset, .unset] [(.long ((t2 + (((q3 &&& (9223372036854775807 : Int64)).toUInt64 >>> ((3 : Int32) &&& 0x3f).toInt64.toUInt64).toInt64)) + (1 : Int64)))])) _
    rw [h_t3]
    refine XS.lstore X0.here hx rfl (hb hby at_53) rfl (l' := #[.val (.int p1), .val (.long q1), .second, .val (.long q2), .second, .val (.long q3), .second, .val (.long q4), .second, .val (.int nn), .val (.int cn), .val (.long t1), .second, .val (.long t2), .second, .val (.long t3), .second, .unset, .unset, .unset, .unset, .unset, .unset, .unset]) rfl ?_
    refine XS.lload X0.here hx rfl (hb hby at_55) rfl ?_
    refine XS.lload X0.here hx rfl (hb hby at_57) rfl ?_
    show Steps p.tables e below (s₁.setTop (mkF m 59 #[.val (.int p1), .val (.long q1), .second, .val (.long q2), .second, .val (.long q3), .second, .val (.long q4), .second, .val (.int nn), .val (.int cn), .val (.long t1), .second, .val (.long t2), .second, .val (.long t3), .second, .unset, .unset, .unset, .unset, .unset, .unset, .unset] [(.long q4), (.long t3)])) _
    refine X0.ldc2Long hx hown (mvT hZ (ow hw 0 rfl)) (g := (mkF m 59 #[.val (.int p1), .val (.long q1), .second, .val (.long q2), .second, .val (.long q3), .second, .val (.long q4), .second, .val (.int nn), .val (.int cn), .val (.long t1), .second, .val (.long t2), .second, .val (.long t3), .second, .unset, .unset, .unset, .unset, .unset, .unset, .unset] [(.long q4), (.long t3)])) rfl (hb hby at_59) _ ?_
    refine XS.land X0.here hx rfl (hb hby at_62) rfl ?_
    refine XS.iconst X0.here hx rfl (hb hby at_63) ?_
    show Steps p.tables e below (s₁.setTop (mkF m 64 #[.val (.int p1), .val (.long q1), .second, .val (.long q2), .second, .val (.long q3), .second, .val (.long q4), .second, .val (.int nn), .val (.int cn), .val (.long t1), .second, .val (.long t2), .second, .val (.long t3), .second, .unset, .unset, .unset, .unset, .unset, .unset, .unset] [(.int (3 : Int32)), (.long (q4 &&& (9223372036854775807 : Int64))), (.long t3)])) _
    refine XS.lushr X0.here hx rfl (hb hby at_64) rfl ?_
    refine XS.ladd X0.here hx rfl (hb hby at_65) rfl ?_
    refine XS.lconst X0.here hx rfl (hb hby at_66) ?_
    show Steps p.tables e below (s₁.setTop (mkF m 67 #[.val (.int p1), .val (.long q1), .second, .val (.long q2), .second, .val (.long q3), .second, .val (.long q4), .second, .val (.int nn), .val (.int cn), .val (.long t1), .second, .val (.long t2), .second, .val (.long t3), .second, .unset, .unset, .unset, .unset, .unset, .unset, .unset] [(.long (1 : Int64)), (.long (t3 + (((q4 &&& (9223372036854775807 : Int64)).toUInt64 >>> ((3 : Int32) &&& 0x3f).toInt64.toUInt64).toInt64)))])) _
    refine XS.ladd X0.here hx rfl (hb hby at_67) rfl ?_
    show Steps p.tables e below (s₁.setTop (mkF m 68 #[.val (.int p1), .val (.long q1), .second, .val (.long q2), .second, .val (.long q3), .second, .val (.long q4), .second, .val (.int nn), .val (.int cn), .val (.long t1), .second, .val (.long t2), .second, .val (.long t3), .second, .unset, .unset, .unset, .unset, .unset, .unset, .unset] [(.long ((t3 + (((q4 &&& (9223372036854775807 : Int64)).toUInt64 >>> ((3 : Int32) &&& 0x3f).toInt64.toUInt64).toInt64)) + (1 : Int64)))])) _
    rw [h_t4]
    refine XS.lstore X0.here hx rfl (hb hby at_68) rfl (l' := #[.val (.int p1), .val (.long q1), .second, .val (.long q2), .second, .val (.long q3), .second, .val (.long q4), .second, .val (.int nn), .val (.int cn), .val (.long t1), .second, .val (.long t2), .second, .val (.long t3), .second, .val (.long t4), .second, .unset, .unset, .unset, .unset, .unset]) rfl ?_
    refine st1 _ ?_
    show Steps p.tables e below (T1.setTop (mkF m 73 #[.val (.int p1), .val (.long q1), .second, .val (.long q2), .second, .val (.long q3), .second, .val (.long q4), .second, .val (.int nn), .val (.int cn), .val (.long t1), .second, .val (.long t2), .second, .val (.long t3), .second, .val (.long t4), .second, .unset, .unset, .unset, .unset, .unset] [(.ref b1)])) _
    refine XS.dup X1.here hx rfl (hb hby at_73) rfl rfl ?_
    refine st3.trans ?_
    refine XS.astore X3.here hx rfl (hb hby at_77) rfl rfl (l' := #[.val (.int p1), .val (.long q1), .second, .val (.long q2), .second, .val (.long q3), .second, .val (.long q4), .second, .val (.int nn), .val (.int cn), .val (.long t1), .second, .val (.long t2), .second, .val (.long t3), .second, .val (.long t4), .second, .val (.ref b1), .unset, .unset, .unset, .unset]) rfl ?_
    show Steps p.tables e below (T3.setTop (mkF m 79 #[.val (.int p1), .val (.long q1), .second, .val (.long q2), .second, .val (.long q3), .second, .val (.long q4), .second, .val (.int nn), .val (.int cn), .val (.long t1), .second, .val (.long t2), .second, .val (.long t3), .second, .val (.long t4), .second, .val (.ref b1), .unset, .unset, .unset, .unset] [])) _
    refine XS.aload X3.here hx rfl (hb hby at_79) rfl rfl ?_
    refine st5 _ ?_
    refine XS.dup X5.here hx rfl (hb hby at_84) rfl rfl ?_
    show Steps p.tables e below (T5.setTop (mkF m 85 #[.val (.int p1), .val (.long q1), .second, .val (.long q2), .second, .val (.long q3), .second, .val (.long q4), .second, .val (.int nn), .val (.int cn), .val (.long t1), .second, .val (.long t2), .second, .val (.long t3), .second, .val (.long t4), .second, .val (.ref b1), .unset, .unset, .unset, .unset] [(.ref b5), (.ref b5), (.ref b1)])) _
    refine XS.iload X5.here hx rfl (hb hby at_85) rfl ?_
    refine XS.lconst X5.here hx rfl (hb hby at_87) ?_
    refine st6 _ ?_
    show Steps p.tables e below (T6.setTop (mkF m 91 #[.val (.int p1), .val (.long q1), .second, .val (.long q2), .second, .val (.long q3), .second, .val (.long q4), .second, .val (.int nn), .val (.int cn), .val (.long t1), .second, .val (.long t2), .second, .val (.long t3), .second, .val (.long t4), .second, .val (.ref b1), .unset, .unset, .unset, .unset] [(.ref bb6), (.int cn), (.ref b5), (.ref b5), (.ref b1)])) _
    refine st15.trans ?_
    refine st29.trans ?_
    refine XS.pop X29.here hx rfl (hb hby at_97) rfl rfl ?_
    show Steps p.tables e below (T29.setTop (mkF m 98 #[.val (.int p1), .val (.long q1), .second, .val (.long q2), .second, .val (.long q3), .second, .val (.long q4), .second, .val (.int nn), .val (.int cn), .val (.long t1), .second, .val (.long t2), .second, .val (.long t3), .second, .val (.long t4), .second, .val (.ref b1), .unset, .unset, .unset, .unset] [])) _
    refine st32 _ ?_
    refine XS.dup X32.here hx rfl (hb hby at_101) rfl rfl ?_
    refine XS.aload X32.here hx rfl (hb hby at_102) rfl rfl ?_
    show Steps p.tables e below (T32.setTop (mkF m 104 #[.val (.int p1), .val (.long q1), .second, .val (.long q2), .second, .val (.long q3), .second, .val (.long q4), .second, .val (.int nn), .val (.int cn), .val (.long t1), .second, .val (.long t2), .second, .val (.long t3), .second, .val (.long t4), .second, .val (.ref b1), .unset, .unset, .unset, .unset] [(.ref b1), (.ref b32), (.ref b32)])) _
    refine st52.trans ?_
    refine XS.astore X52.here hx rfl (hb hby at_107) rfl rfl (l' := #[.val (.int p1), .val (.long q1), .second, .val (.long q2), .second, .val (.long q3), .second, .val (.long q4), .second, .val (.int nn), .val (.int cn), .val (.long t1), .second, .val (.long t2), .second, .val (.long t3), .second, .val (.long t4), .second, .val (.ref b1), .val (.ref b32), .unset, .unset, .unset]) rfl ?_
    refine st54 _ ?_
    show Steps p.tables e below (T54.setTop (mkF m 112 #[.val (.int p1), .val (.long q1), .second, .val (.long q2), .second, .val (.long q3), .second, .val (.long q4), .second, .val (.int nn), .val (.int cn), .val (.long t1), .second, .val (.long t2), .second, .val (.long t3), .second, .val (.long t4), .second, .val (.ref b1), .val (.ref b32), .unset, .unset, .unset] [(.ref b54)])) _
    refine XS.dup X54.here hx rfl (hb hby at_112) rfl rfl ?_
    refine XS.aload X54.here hx rfl (hb hby at_113) rfl rfl ?_
    refine st61.trans ?_
    show Steps p.tables e below (T61.setTop (mkF m 118 #[.val (.int p1), .val (.long q1), .second, .val (.long q2), .second, .val (.long q3), .second, .val (.long q4), .second, .val (.int nn), .val (.int cn), .val (.long t1), .second, .val (.long t2), .second, .val (.long t3), .second, .val (.long t4), .second, .val (.ref b1), .val (.ref b32), .unset, .unset, .unset] [(.ref b54)])) _
    refine XS.astore X61.here hx rfl (hb hby at_118) rfl rfl (l' := #[.val (.int p1), .val (.long q1), .second, .val (.long q2), .second, .val (.long q3), .second, .val (.long q4), .second, .val (.int nn), .val (.int cn), .val (.long t1), .second, .val (.long t2), .second, .val (.long t3), .second, .val (.long t4), .second, .val (.ref b1), .val (.ref b32), .val (.ref b54), .unset, .unset]) rfl ?_
    refine XS.aload X61.here hx rfl (hb hby at_120) rfl rfl ?_
    refine XS.aload X61.here hx rfl (hb hby at_122) rfl rfl ?_
    show Steps p.tables e below (T61.setTop (mkF m 124 #[.val (.int p1), .val (.long q1), .second, .val (.long q2), .second, .val (.long q3), .second, .val (.long q4), .second, .val (.int nn), .val (.int cn), .val (.long t1), .second, .val (.long t2), .second, .val (.long t3), .second, .val (.long t4), .second, .val (.ref b1), .val (.ref b32), .val (.ref b54), .unset, .unset] [(.ref b32), (.ref b54)])) _
    refine XS.lload X61.here hx rfl (hb hby at_124) rfl ?_
    refine st73.trans ?_
    refine XS.lload X73.here hx rfl (hb hby at_129) rfl ?_
    show Steps p.tables e below (T73.setTop (mkF m 131 #[.val (.int p1), .val (.long q1), .second, .val (.long q2), .second, .val (.long q3), .second, .val (.long q4), .second, .val (.int nn), .val (.int cn), .val (.long t1), .second, .val (.long t2), .second, .val (.long t3), .second, .val (.long t4), .second, .val (.ref b1), .val (.ref b32), .val (.ref b54), .unset, .unset] [(.long t1)])) _
    refine XS.lstore X73.here hx rfl (hb hby at_131) rfl (l' := #[.val (.int p1), .val (.long q1), .second, .val (.long q2), .second, .val (.long q3), .second, .val (.long q4), .second, .val (.int nn), .val (.int cn), .val (.long t1), .second, .val (.long t2), .second, .val (.long t3), .second, .val (.long t4), .second, .val (.ref b1), .val (.ref b32), .val (.ref b54), .val (.long t1), .second]) rfl ?_
    refine XS.iload X73.here hx rfl (hb hby at_133) rfl ?_
    refine XS.iconst X73.here hx rfl (hb hby at_135) ?_
    show Steps p.tables e below (T73.setTop (mkF m 136 #[.val (.int p1), .val (.long q1), .second, .val (.long q2), .second, .val (.long q3), .second, .val (.long q4), .second, .val (.int nn), .val (.int cn), .val (.long t1), .second, .val (.long t2), .second, .val (.long t3), .second, .val (.long t4), .second, .val (.ref b1), .val (.ref b32), .val (.ref b54), .val (.long t1), .second] [(.int (2 : Int32)), (.int nn)])) _
    refine XS.icmpNo X73.here hx rfl (hb hby at_136) rfl (flt hc136).1 ?_
    refine XS.aload X73.here hx rfl (hb hby at_139) rfl rfl ?_
    refine XS.aload X73.here hx rfl (hb hby at_141) rfl rfl ?_
    show Steps p.tables e below (T73.setTop (mkF m 143 #[.val (.int p1), .val (.long q1), .second, .val (.long q2), .second, .val (.long q3), .second, .val (.long q4), .second, .val (.int nn), .val (.int cn), .val (.long t1), .second, .val (.long t2), .second, .val (.long t3), .second, .val (.long t4), .second, .val (.ref b1), .val (.ref b32), .val (.ref b54), .val (.long t1), .second] [(.ref b32), (.ref b54)])) _
    refine XS.lload X73.here hx rfl (hb hby at_143) rfl ?_
    refine st79.trans ?_
    refine XS.lload X79.here hx rfl (hb hby at_148) rfl ?_
    show Steps p.tables e below (T79.setTop (mkF m 150 #[.val (.int p1), .val (.long q1), .second, .val (.long q2), .second, .val (.long q3), .second, .val (.long q4), .second, .val (.int nn), .val (.int cn), .val (.long t1), .second, .val (.long t2), .second, .val (.long t3), .second, .val (.long t4), .second, .val (.ref b1), .val (.ref b32), .val (.ref b54), .val (.long t1), .second] [(.long t2)])) _
    refine XS.lstore X79.here hx rfl (hb hby at_150) rfl (l' := #[.val (.int p1), .val (.long q1), .second, .val (.long q2), .second, .val (.long q3), .second, .val (.long q4), .second, .val (.int nn), .val (.int cn), .val (.long t1), .second, .val (.long t2), .second, .val (.long t3), .second, .val (.long t4), .second, .val (.ref b1), .val (.ref b32), .val (.ref b54), .val (.long t2), .second]) rfl ?_
    refine XS.iload X79.here hx rfl (hb hby at_152) rfl ?_
    refine XS.iconst X79.here hx rfl (hb hby at_154) ?_
    show Steps p.tables e below (T79.setTop (mkF m 155 #[.val (.int p1), .val (.long q1), .second, .val (.long q2), .second, .val (.long q3), .second, .val (.long q4), .second, .val (.int nn), .val (.int cn), .val (.long t1), .second, .val (.long t2), .second, .val (.long t3), .second, .val (.long t4), .second, .val (.ref b1), .val (.ref b32), .val (.ref b54), .val (.long t2), .second] [(.int (3 : Int32)), (.int nn)])) _
    refine XS.icmpNo X79.here hx rfl (hb hby at_155) rfl (flt hc155).1 ?_
    refine XS.aload X79.here hx rfl (hb hby at_158) rfl rfl ?_
    refine XS.aload X79.here hx rfl (hb hby at_160) rfl rfl ?_
    show Steps p.tables e below (T79.setTop (mkF m 162 #[.val (.int p1), .val (.long q1), .second, .val (.long q2), .second, .val (.long q3), .second, .val (.long q4), .second, .val (.int nn), .val (.int cn), .val (.long t1), .second, .val (.long t2), .second, .val (.long t3), .second, .val (.long t4), .second, .val (.ref b1), .val (.ref b32), .val (.ref b54), .val (.long t2), .second] [(.ref b32), (.ref b54)])) _
    refine XS.lload X79.here hx rfl (hb hby at_162) rfl ?_
    refine st85.trans ?_
    refine XS.lload X85.here hx rfl (hb hby at_167) rfl ?_
    show Steps p.tables e below (T85.setTop (mkF m 169 #[.val (.int p1), .val (.long q1), .second, .val (.long q2), .second, .val (.long q3), .second, .val (.long q4), .second, .val (.int nn), .val (.int cn), .val (.long t1), .second, .val (.long t2), .second, .val (.long t3), .second, .val (.long t4), .second, .val (.ref b1), .val (.ref b32), .val (.ref b54), .val (.long t2), .second] [(.long t3)])) _
    refine XS.lstore X85.here hx rfl (hb hby at_169) rfl (l' := #[.val (.int p1), .val (.long q1), .second, .val (.long q2), .second, .val (.long q3), .second, .val (.long q4), .second, .val (.int nn), .val (.int cn), .val (.long t1), .second, .val (.long t2), .second, .val (.long t3), .second, .val (.long t4), .second, .val (.ref b1), .val (.ref b32), .val (.ref b54), .val (.long t3), .second]) rfl ?_
    refine XS.iload X85.here hx rfl (hb hby at_171) rfl ?_
    refine XS.iconst X85.here hx rfl (hb hby at_173) ?_
    show Steps p.tables e below (T85.setTop (mkF m 174 #[.val (.int p1), .val (.long q1), .second, .val (.long q2), .second, .val (.long q3), .second, .val (.long q4), .second, .val (.int nn), .val (.int cn), .val (.long t1), .second, .val (.long t2), .second, .val (.long t3), .second, .val (.long t4), .second, .val (.ref b1), .val (.ref b32), .val (.ref b54), .val (.long t3), .second] [(.int (4 : Int32)), (.int nn)])) _
    refine XS.icmpNo X85.here hx rfl (hb hby at_174) rfl (flt hc174).1 ?_
    refine XS.aload X85.here hx rfl (hb hby at_177) rfl rfl ?_
    refine XS.aload X85.here hx rfl (hb hby at_179) rfl rfl ?_
    show Steps p.tables e below (T85.setTop (mkF m 181 #[.val (.int p1), .val (.long q1), .second, .val (.long q2), .second, .val (.long q3), .second, .val (.long q4), .second, .val (.int nn), .val (.int cn), .val (.long t1), .second, .val (.long t2), .second, .val (.long t3), .second, .val (.long t4), .second, .val (.ref b1), .val (.ref b32), .val (.ref b54), .val (.long t3), .second] [(.ref b32), (.ref b54)])) _
    refine XS.lload X85.here hx rfl (hb hby at_181) rfl ?_
    refine st91.trans ?_
    refine XS.lload X91.here hx rfl (hb hby at_186) rfl ?_
    show Steps p.tables e below (T91.setTop (mkF m 188 #[.val (.int p1), .val (.long q1), .second, .val (.long q2), .second, .val (.long q3), .second, .val (.long q4), .second, .val (.int nn), .val (.int cn), .val (.long t1), .second, .val (.long t2), .second, .val (.long t3), .second, .val (.long t4), .second, .val (.ref b1), .val (.ref b32), .val (.ref b54), .val (.long t3), .second] [(.long t4)])) _
    refine XS.lstore X91.here hx rfl (hb hby at_188) rfl (l' := #[.val (.int p1), .val (.long q1), .second, .val (.long q2), .second, .val (.long q3), .second, .val (.long q4), .second, .val (.int nn), .val (.int cn), .val (.long t1), .second, .val (.long t2), .second, .val (.long t3), .second, .val (.long t4), .second, .val (.ref b1), .val (.ref b32), .val (.ref b54), .val (.long t4), .second]) rfl ?_
    refine XS.aload X91.here hx rfl (hb hby at_190) rfl rfl ?_
    refine st93.trans ?_
    show Steps p.tables e below (T93.setTop (mkF m 195 #[.val (.int p1), .val (.long q1), .second, .val (.long q2), .second, .val (.long q3), .second, .val (.long q4), .second, .val (.int nn), .val (.int cn), .val (.long t1), .second, .val (.long t2), .second, .val (.long t3), .second, .val (.long t4), .second, .val (.ref b1), .val (.ref b32), .val (.ref b54), .val (.long t4), .second] [(.long ((fun j => if j = (own_md ((own_md ((own_md (0 + 1) n) + 1) n) + 1) n) then t4 else (fun j => if j = (own_md ((own_md (0 + 1) n) + 1) n) then t3 else (fun j => if j = (own_md (0 + 1) n) then t2 else (fun j => if j = 0 then t1 else (fun _ => (-9223372036854775808 : Int64)) j) j) j) j) (own_md ((own_md ((own_md ((own_md ((own_md (0 + 1) n) + 1) n) + 1) n) + 1) n) + (n - 1)) n)))])) _
    refine XS.lload X93.here hx rfl (hb hby at_195) rfl ?_
    refine XS.lcmp X93.here hx rfl (hb hby at_197) rfl ?_
    refine XS.ifNo X93.here hx rfl (hb hby at_198) rfl ((if0 _ _).trans (teq ((lw_eq _ _).mpr ((own_read (f := (fun j => if j = (own_md ((own_md (0 + 1) n) + 1) n) then t3 else (fun j => if j = (own_md (0 + 1) n) then t2 else (fun j => if j = 0 then t1 else (fun _ => (-9223372036854775808 : Int64)) j) j) j)) (own_mdlt (own_mdlt (own_mdlt hn1)))) : ((fun j => if j = (own_md ((own_md ((own_md (0 + 1) n) + 1) n) + 1) n) then t4 else (fun j => if j = (own_md ((own_md (0 + 1) n) + 1) n) then t3 else (fun j => if j = (own_md (0 + 1) n) then t2 else (fun j => if j = 0 then t1 else (fun _ => (-9223372036854775808 : Int64)) j) j) j) j) (own_md ((own_md ((own_md ((own_md ((own_md (0 + 1) n) + 1) n) + 1) n) + 1) n) + (n - 1)) n)) = t4))).2) ?_
    show Steps p.tables e below (T93.setTop (mkF m 201 #[.val (.int p1), .val (.long q1), .second, .val (.long q2), .second, .val (.long q3), .second, .val (.long q4), .second, .val (.int nn), .val (.int cn), .val (.long t1), .second, .val (.long t2), .second, .val (.long t3), .second, .val (.long t4), .second, .val (.ref b1), .val (.ref b32), .val (.ref b54), .val (.long t4), .second] [])) _
    refine XS.iconst X93.here hx rfl (hb hby at_201) ?_
    refine XS.goto X93.here hx rfl (pc0 := 202) (pc' := 206) rfl (hb hby at_202) (by decide) (by decide) ?_
    show Steps p.tables e below (T93.setTop (mkF m 206 #[.val (.int p1), .val (.long q1), .second, .val (.long q2), .second, .val (.long q3), .second, .val (.long q4), .second, .val (.int nn), .val (.int cn), .val (.long t1), .second, .val (.long t2), .second, .val (.long t3), .second, .val (.long t4), .second, .val (.ref b1), .val (.ref b32), .val (.ref b54), .val (.long t4), .second] [(.int (1 : Int32))])) _
    exact retN X93 hx (t := .boolean) Bd.returns (by simp) (hb hby at_206) hr
  · show QF h0 n0 _ T93.heap _
    rw [e93]
    exact ⟨rfl, N93⟩
theorem own_cap (l : Launch) (Z : State) (a0 : Array Value) (hw : ∀ d ∈ tables_1, d.before a0 Z = true) (cn : Int32) (hc1 : 1 ≤ cn.toInt) : ∃ n : Nat, 0 < n ∧ n ≤ 16 ∧ (Int32.ofNat n < cn → n = 16) ∧ ∀ (hh : Heap) (nn0 : Nat), nn0 ≤ hh.size → MetFree l nm_30 (head1 (Jvm.Cond.code nm_30 jdk_29_method_69_code 2 (some .int) :: []) rr0) (fun aa zU => aa = #[(.int cn), (.int (16 : Int32))] ∧ Z.Warmed39 zU.vm ∧ zU.heap = hh) (fun _ _ _ _ _ => True) (fun _ zU zo zU' => ∃ zv zL, zo = .returned zv ∧ QP (some (.int (Int32.ofNat n))) hh nn0 zv zU'.heap zL ∧ FrameEnd zU zo zU' zL rr0.cells rr0.slots) := by
  by_cases q : (16 : Int32) < cn
  · exact ⟨16, by decide, by decide, fun _ => rfl, fun hh nn0 hz => rm30_t l Z a0 hw [] cn (16 : Int32) hh nn0 hz q⟩
  · have e16 : (16 : Int32).toInt = 16 := by decide
    have q2 := q
    rw [Int32.lt_iff_toInt_lt, e16] at q2
    have e1 : Int32.ofNat cn.toInt.toNat = cn := by
      apply Int32.toInt_inj.mp
      rw [own_of (by omega)]
      omega
    refine ⟨cn.toInt.toNat, by omega, by omega, fun z => ?_, fun hh nn0 hz => ?_⟩
    · rw [e1, Int32.lt_iff_toInt_lt] at z; omega
    · rw [e1]; exact rm30_f l Z a0 hw [] cn (16 : Int32) hh nn0 hz q
theorem own_size0 {s : State} {args : Array Value} {t : Term} {b : Addr} {cl : Cell} (ev : t.eval args s none [] s = some (.ref b)) (ha : s.arrayAt? b = some cl)
    (h4 : (Jvm.Cond.eq (Term.length t) (Term.int 0)).value args s none s [] = some true) : cl.slots.size = 0 := by
  obtain ⟨x, y, e1, e2, -, -⟩ := cmp_v (Or.inl h4)
  have hl : cl.slots.size < 2 ^ 31 := by
    refine Nat.lt_of_not_le fun q => ?_
    simp only [Term.eval, ev, ha, Option.bind_eq_bind, Option.bind_some, if_neg (Nat.not_lt.mpr q)] at e1
    cases e1
  have e3 := len_f ev ha hl
  have e4 : cl.slots.size.toInt32 = (0 : Int32) := by simpa [Cond.value, e3, Term.int_eval] using h4
  have e5 := len_toInt hl
  rw [e4] at e5
  have e6 : (0 : Int32).toInt = 0 := by decide
  omega
theorem own_and3 (p : Int32) : (p &&& 3) = 0 ∨ (p &&& 3) = 1 ∨ (p &&& 3) = 2 ∨ (p &&& 3) = 3 := by
  have h := c_mask p 3 2 (by decide) (by decide)
  have h2 : (p &&& 3).toInt = 0 ∨ (p &&& 3).toInt = 1 ∨ (p &&& 3).toInt = 2 ∨ (p &&& 3).toInt = 3 := by omega
  rcases h2 with q | q | q | q
  · exact Or.inl (Int32.toInt_inj.mp q)
  · exact Or.inr (Or.inl (Int32.toInt_inj.mp q))
  · exact Or.inr (Or.inr (Or.inl (Int32.toInt_inj.mp q)))
  · exact Or.inr (Or.inr (Or.inr (Int32.toInt_inj.mp q)))
theorem own_cn (x : Int32) : 1 ≤ ((1 : Int32) + (x &&& (31 : Int32))).toInt ∧ ((1 : Int32) + (x &&& (31 : Int32))).toInt ≤ 32 := by
  have e31 : (31 : Int32).toInt = 31 := by decide
  have a1 := c_and x 31 (by rw [e31]; decide)
  have a2 := c_iadd 1 (x &&& 31)
  have a3 := rng32 ((1 : Int32) + (x &&& 31))
  have e1 : (1 : Int32).toInt = 1 := by decide
  omega
set_option maxRecDepth 65536 in
set_option maxHeartbeats 40000000 in
theorem comes_1 {Post : Tables → Env → Array Value → State → Outcome → State → Prop} (hpost : ∀ tb e args s v u, (limb_1_1.after args s (.returned v) u = true ∧ limb_1_2.after args s (.returned v) u = true ∧ True) → ReturnedEndW s (.returned v) u (Jvm.fieldLocs frame_1_writes args s ++ Jvm.arrayLocs frame_1_arrays args s ++ Jvm.staticLocs frame_1_statics s) 32 1216 → Post tb e args s (.returned v) u) :
    ArmFor flags0 classFile x code maxLocals ret World_1 tables_1 room_1 Calls_1 rest_1 Pre_1 Post := by
  intro l hfl _ _ p e ha hc hk s m args below hf hA hF happ hP
  obtain ⟨hcalls, hrest, hpre⟩ := hP
  obtain ⟨-, -, -, hnamed, -, -, -, hat⟩ := (Spec.applies_iff hf).mp happ
  obtain ⟨hg, hn⟩ := and_e (Cond.before_iff.mp (show (Jvm.Cond.and given_1 narrow_1).before args s = true from hpre))
  obtain ⟨hcount, hk0⟩ := and_e hg
  obtain ⟨ha0, hk1⟩ := and_e hk0
  obtain ⟨ha1, hk2⟩ := and_e hk1
  obtain ⟨ha2, hk3⟩ := and_e hk2
  obtain ⟨ha3, hk4⟩ := and_e hk3
  have ha4 := hk4
  obtain ⟨w0, w1, w2, w3, w4, rfl⟩ : ∃ w0 w1 w2 w3 w4 : Value, args = #[w0, w1, w2, w3, w4] := by
    have hs : args.size = 5 := by simpa [Cond.value, given_1] using hcount
    obtain ⟨L⟩ := args
    match L, hs with
    | [w0, w1, w2, w3, w4], _ => exact ⟨w0, w1, w2, w3, w4, rfl⟩
  obtain ⟨i0, ei0⟩ := is_v ha0
  obtain rfl : w0 = (.int i0) := Option.some.inj ei0
  obtain ⟨i1, ei1⟩ := isL_v ha1
  obtain rfl : w1 = (.long i1) := Option.some.inj ei1
  obtain ⟨i2, ei2⟩ := isL_v ha2
  obtain rfl : w2 = (.long i2) := Option.some.inj ei2
  obtain ⟨i3, ei3⟩ := isL_v ha3
  obtain rfl : w3 = (.long i3) := Option.some.inj ei3
  obtain ⟨i4, ei4⟩ := isL_v ha4
  obtain rfl : w4 = (.long i4) := Option.some.inj ei4
  have hw := fun d (hd : d ∈ tables_1) => atoms_spec (ws := Jvm.Cond.code x code maxLocals ret :: tables_1) hat d (List.mem_cons_of_mem _ hd)
  obtain ⟨hn_0, hm_0⟩ := and_e hn
  obtain ⟨A_Rule_LONGEST_PERIOD, ev_Rule_LONGEST_PERIOD⟩ := exa_v hn_0
  have E_Rule_LONGEST_PERIOD := Exa.start ev_Rule_LONGEST_PERIOD hn_0
  have S_Rule_LONGEST_PERIOD := Sta.start ev_Rule_LONGEST_PERIOD (Or.inr ⟨(hw _ (List.mem_of_getElem? (i := 29) rfl)), (hw _ (List.mem_of_getElem? (i := 81) rfl))⟩)
  have F_Rule_LONGEST_PERIOD_seconds := own_fldJ ev_Rule_LONGEST_PERIOD hm_0
  obtain ⟨hsets, hown0⟩ := atoms_of _ (rest_1_c_eq ▸ (show rest_1_c.before _ s = true from hrest))
  have hz := fun i {d : Jvm.Cond} (h : jdkStatics_1[i]? = some d) => hsets d (List.mem_of_getElem? h)
  have w6 := Cond.before_iff.mp (hz 6 rfl)
  obtain ⟨de, evd⟩ := arr_v w6
  have SDZ := Sta.start evd (Or.inr ⟨ow hw 3 rfl, hz 2 rfl⟩)
  obtain ⟨cl, Ar⟩ := Arr.start evd w6
  have hsz := own_size0 evd (Ar.fin (Vm.Alike.refl _)) (Cond.before_iff.mp (hz 8 rfl))
  have VDZ : Arv s s.heap de cl.cls (.object "java/lang/Object") (0 : Int32) [] .null := ⟨cl, Ar, rfl, hsz, by decide, fun k hk => absurd hk (by omega), fun k hk => absurd hk (by omega)⟩
  have w11 := Cond.before_iff.mp (hz 11 rfl)
  obtain ⟨zd, evz⟩ := exa_v w11
  have SZZ := Sta.start evz (Or.inr ⟨ow hw 32 rfl, hz 9 rfl⟩)
  have FZZ := own_fldJ evz (Cond.before_iff.mp (hz 12 rfl))
  have FZN := own_fldI evz (Cond.before_iff.mp (hz 13 rfl))
  obtain ⟨k1, k2⟩ := own_cn ((i0.toUInt32 >>> ((2 : Int32) &&& 31).toUInt32).toInt32)
  obtain ⟨cn, hcnx⟩ : ∃ z, ((1 : Int32) + ((i0.toUInt32 >>> ((2 : Int32) &&& 31).toUInt32).toInt32 &&& (31 : Int32))) = z := ⟨_, rfl⟩
  rw [hcnx] at k1 k2
  have e0 : (0 : Int32).toInt = 0 := by decide
  have e1 : (1 : Int32).toInt = 1 := by decide
  have eM : (2147483647 : Int32).toInt = 2147483647 := by decide
  obtain ⟨n, hn1, hn, hcap, hmin⟩ := own_cap l s _ hw cn k1
  have hmain : MetFree l x (head1 (Jvm.Cond.code x code maxLocals ret :: tables_1) room_1) (fun aa zU => aa = #[(.int i0), (.long i1), (.long i2), (.long i3), (.long i4)] ∧ s.Warmed39 zU.vm ∧ zU.heap = s.heap) (fun _ _ _ _ _ => True) (fun _ zU zo zU' => ∃ zv zL, zo = .returned zv ∧ QF s.heap s.heap.size zv zU'.heap zL ∧ ReturnedEndW zU zo zU' zL room_1.cells room_1.slots) := by
    rcases own_and3 i0 with q | q | q | q
    · exact rm0_1 l s _ hw tables_1 i0 i1 i2 i3 i4 de cl.cls zd A_Rule_LONGEST_PERIOD cn _ n s.heap s.heap.size (Nat.le_refl _) (Old.start s) SDZ VDZ SZZ FZZ FZN S_Rule_LONGEST_PERIOD F_Rule_LONGEST_PERIOD_seconds hcnx rfl (by rw [Int32.lt_iff_toInt_lt, e1]; omega) (by rw [Int32.lt_iff_toInt_lt, e0]; omega) (by rw [Int32.lt_iff_toInt_lt, eM]; omega) hn1 hn hcap hmin (by rw [q]; decide) (by rw [q]; decide) (by rw [q]; decide)
    · exact rm0_2 l s _ hw tables_1 i0 i1 i2 i3 i4 de cl.cls zd A_Rule_LONGEST_PERIOD cn _ n s.heap s.heap.size (Nat.le_refl _) (Old.start s) SDZ VDZ SZZ FZZ FZN S_Rule_LONGEST_PERIOD F_Rule_LONGEST_PERIOD_seconds hcnx rfl (by rw [Int32.lt_iff_toInt_lt, e1]; omega) (by rw [Int32.lt_iff_toInt_lt, e0]; omega) (by rw [Int32.lt_iff_toInt_lt, eM]; omega) hn1 hn hcap hmin (by rw [q]; decide) (by rw [q]; decide) (by rw [q]; decide)
    · exact rm0_3 l s _ hw tables_1 i0 i1 i2 i3 i4 de cl.cls zd A_Rule_LONGEST_PERIOD cn _ n s.heap s.heap.size (Nat.le_refl _) (Old.start s) SDZ VDZ SZZ FZZ FZN S_Rule_LONGEST_PERIOD F_Rule_LONGEST_PERIOD_seconds hcnx rfl (by rw [Int32.lt_iff_toInt_lt, e1]; omega) (by rw [Int32.lt_iff_toInt_lt, e0]; omega) (by rw [Int32.lt_iff_toInt_lt, eM]; omega) hn1 hn hcap hmin (by rw [q]; decide) (by rw [q]; decide) (by rw [q]; decide)
    · exact rm0_4 l s _ hw tables_1 i0 i1 i2 i3 i4 de cl.cls zd A_Rule_LONGEST_PERIOD cn _ n s.heap s.heap.size (Nat.le_refl _) (Old.start s) SDZ VDZ SZZ FZZ FZN S_Rule_LONGEST_PERIOD F_Rule_LONGEST_PERIOD_seconds hcnx rfl (by rw [Int32.lt_iff_toInt_lt, e1]; omega) (by rw [Int32.lt_iff_toInt_lt, e0]; omega) (by rw [Int32.lt_iff_toInt_lt, eM]; omega) hn1 hn hcap hmin (by rw [q]; decide) (by rw [q]; decide) (by rw [q]; decide)
  obtain ⟨n, o, h1, h2, h3, _, L, rfl, ⟨rfl, N⟩, hq⟩ := hmain p e ha hc hk s m _ below hf ((Spec.applies_iff_loose hf).mp happ).1 ⟨rfl, State.Warmed39.refl s, rfl⟩ trivial
  refine ⟨n, _, h1, h2, h3, hpost _ _ _ _ _ _ ⟨Cond.after_iff.mpr rfl, Cond.after_iff.mpr (eq_i res_at (Term.int_eval (1)) rfl), trivial⟩ ⟨hq.1, hq.2.1, hq.2.2.1, (hq.2.2.2.sift fun y hy => Or.inr (N y hy)).mono (by decide) (by decide)⟩⟩
theorem main_1_1 : Claimed_1_1 := comes_1 fun _ _ _ _ _ _ h hF => ⟨h.1, hF⟩
theorem main_1_2 : Claimed_1_2 := comes_1 fun _ _ _ _ _ _ h hF => ⟨h.2.1, hF⟩
end Jvm.Pilot.@@N@@
namespace Jvm.Pilot.@@N@@
open Jvm Jvm.ClassFile Sem Op Lib Jvm.Free Jvm.Stand Jvm.Pilot.@@N@@.Jvm.D
/-! MADE BY PROGRAM (witnessworld.py) out of the Statement's table words and the real class files: 36 classes; the members and pool entries that the words name. The judged class is class 1, her method 1. -/
namespace start1
open Jvm.ClassFile
def u (s : String) : CpInfo := .utf8 (stringToUtf16 s)
/-- a pool by its gaps: so many unusable entries, then the entry; so many at the end -/
def gap : Nat → List CpInfo → List CpInfo
  | 0, r => r
  | n + 1, r => .unusable :: gap n r
def poolList (es : List (Nat × CpInfo)) (last : Nat) : List CpInfo := es.foldr (fun e r => gap e.1 (e.2 :: r)) (gap last [])
def pool (es : List (Nat × CpInfo)) (last : Nat) : Array CpInfo := ⟨poolList es last⟩
def fileOf (pool : Array CpInfo) (this : Nat) (attrs : Array Attribute := #[]) (ms : Array MethodInfo := #[]) (fl : Nat := 33) (sup : Nat := 0) (ifs : Array Nat := #[]) (fds : Array FieldInfo := #[]) : ClassFile where
  minorVersion := 0
  majorVersion := 65
  constantPool := pool
  accessFlags := fl
  thisClass := this
  superClass := sup
  interfaces := ifs
  fields := fds
  methods := ms
  attributes := attrs
def plain (name : String) (sup : Option ClassId) : Class where
  name := name
  kind := .ordinary
  loader := none
  accessFlags := 33
  super := sup
  interfaces := #[]
  cf := none
  fields := #[]
  methods := #[]
  instanceTypes := #[]
  staticTypes := #[]
  resolved := #[]
  callSites := []
  init := .initialized
  statics := none
  mirror := none

def pool0 : Array CpInfo := pool [(5, u "<init>"), (0, u "()V"), (1, .class_ 10), (1, u "java/lang/Object")] 113

def k0c0 : Code := { maxStack := 0, maxLocals := 1, code := object_method_1_code, exceptionTable := #[], attributes := #[] }
def k0m0 : Method := { name := "<init>", desc := "()V", sig := { parameters := [], returnType := none }, accessFlags := 1, code := some k0c0 }
/-- java/lang/Object -/
def k0 : Class := { plain "java/lang/Object" none with
  accessFlags := 33
  interfaces := #[]
  cf := some (fileOf pool0 8 #[] #[{ accessFlags := 1, nameIndex := 5, descriptorIndex := 6, attributes := #[] }] 33 0 #[] #[])
  fields := #[]
  methods := #[k0m0]
  instanceTypes := #[]
  staticTypes := #[]
  resolved := Array.replicate 124 none
  statics := none }

def pool1 : Array CpInfo := pool [(2, .class_ 4), (0, .nameAndType 5 6), (0, u "java/lang/Object"), (0, u "<init>"), (0, u "()V"), (2, .long 9223372036854775807), (1, .class_ 12), (0, u "java/util/ArrayList"), (0, .methodref 11 3), (0, .class_ 15), (0, u "com/example/steady_sluice/steadysluice/Rule"), (0, .methodref 17 18), (0, .class_ 19), (0, .nameAndType 20 21), (0, u "java/time/Duration"), (0, u "ofNanos"), (0, u "(J)Ljava/time/Duration;"), (0, .methodref 14 23), (0, .nameAndType 5 24), (0, u "(ILjava/time/Duration;)V"), (0, .methodref 11 26), (0, .nameAndType 27 28), (0, u "add"), (0, u "(Ljava/lang/Object;)Z"), (0, .class_ 30), (0, u "com/example/steady_sluice/steadysluice/RuleSet"), (0, .methodref 29 32), (0, .nameAndType 5 33), (0, u "(Ljava/util/List;)V"), (0, .class_ 35), (0, u "com/example/steady_sluice/steadysluice/Scope"), (0, .methodref 34 37), (0, .nameAndType 5 38), (0, u "(Lcom/example/steady_sluice/steadysluice/RuleSet;)V"), (0, .methodref 34 40), (0, .nameAndType 41 42), (0, u "admit"), (0, u "(Lcom/example/steady_sluice/steadysluice/RuleSet;J)V"), (0, .methodref 34 44), (0, .nameAndType 45 46), (0, u "newestAdmission"), (0, u "()J"), (0, .class_ 48), (0, u "com/example/steady_sluice/steadysluice/ScopeNewestAdmissionPinLaw"), (2, u "law"), (0, u "(IJJJJ)Z")] 3

def k1m0 : Method := { name := "<init>", desc := "()V", sig := { parameters := [], returnType := none }, accessFlags := 1, code := none }
def k1c1 : Code := { maxStack := 6, maxLocals := 24, code := code, exceptionTable := #[], attributes := #[] }
def k1m1 : Method := { name := "law", desc := "(IJJJJ)Z", sig := { parameters := [.int, .long, .long, .long, .long], returnType := some .boolean }, accessFlags := 9, code := some k1c1 }
/-- com/example/steady_sluice/steadysluice/ScopeNewestAdmissionPinLaw -/
def k1 : Class := { plain "com/example/steady_sluice/steadysluice/ScopeNewestAdmissionPinLaw" (some 0) with
  accessFlags := 49
  interfaces := #[]
  cf := some (fileOf pool1 47 #[] #[{ accessFlags := 1, nameIndex := 5, descriptorIndex := 6, attributes := #[] }, { accessFlags := 9, nameIndex := 51, descriptorIndex := 52, attributes := #[] }] 49 2 #[] #[])
  fields := #[]
  methods := #[k1m0, k1m1]
  instanceTypes := #[]
  staticTypes := #[]
  resolved := Array.replicate 56 none
  statics := none }

def pool2 : Array CpInfo := pool [(8, .class_ 10), (1, u "java/lang/Iterable"), (24, .class_ 36), (0, u "java/lang/Object")] 25

/-- java/lang/Iterable -/
def k2 : Class := { plain "java/lang/Iterable" (some 0) with
  accessFlags := 1537
  interfaces := #[]
  cf := some (fileOf pool2 8 #[] #[] 1537 35 #[] #[])
  fields := #[]
  methods := #[]
  instanceTypes := #[]
  staticTypes := #[]
  resolved := Array.replicate 62 none
  statics := none }

def pool3 : Array CpInfo := pool [(10, .class_ 12), (1, u "java/util/Collection"), (47, .class_ 61), (0, u "java/lang/Object"), (0, .class_ 63), (0, u "java/lang/Iterable")] 51

/-- java/util/Collection -/
def k3 : Class := { plain "java/util/Collection" (some 0) with
  accessFlags := 1537
  interfaces := #[2]
  cf := some (fileOf pool3 10 #[] #[] 1537 60 #[62] #[])
  fields := #[]
  methods := #[]
  instanceTypes := #[]
  staticTypes := #[]
  resolved := Array.replicate 115 none
  statics := none }

def pool4 : Array CpInfo := pool [(1, .methodref 2 3), (0, .class_ 4), (0, .nameAndType 5 6), (0, u "java/lang/Object"), (0, u "<init>"), (0, u "()V"), (1, .class_ 10), (1, u "java/util/AbstractCollection"), (66, .class_ 78), (0, u "java/util/Collection")] 81

def k4c0 : Code := { maxStack := 1, maxLocals := 1, code := jdk_22_method_1_code, exceptionTable := #[], attributes := #[] }
def k4m0 : Method := { name := "<init>", desc := "()V", sig := { parameters := [], returnType := none }, accessFlags := 4, code := some k4c0 }
/-- java/util/AbstractCollection -/
def k4 : Class := { plain "java/util/AbstractCollection" (some 0) with
  accessFlags := 1057
  interfaces := #[3]
  cf := some (fileOf pool4 8 #[] #[{ accessFlags := 4, nameIndex := 5, descriptorIndex := 6, attributes := #[] }] 1057 2 #[77] #[])
  fields := #[]
  methods := #[k4m0]
  instanceTypes := #[]
  staticTypes := #[]
  resolved := Array.replicate 160 none
  statics := none }

def pool5 : Array CpInfo := pool [(8, .class_ 10), (1, u "java/util/SequencedCollection"), (15, .class_ 27), (0, u "java/lang/Object"), (0, .class_ 29), (0, u "java/util/Collection")] 27

/-- java/util/SequencedCollection -/
def k5 : Class := { plain "java/util/SequencedCollection" (some 0) with
  accessFlags := 1537
  interfaces := #[3]
  cf := some (fileOf pool5 8 #[] #[] 1537 26 #[28] #[])
  fields := #[]
  methods := #[]
  instanceTypes := #[]
  staticTypes := #[]
  resolved := Array.replicate 57 none
  statics := none }

def pool6 : Array CpInfo := pool [(8, .class_ 10), (1, u "java/util/List"), (64, u "get"), (0, u "(I)Ljava/lang/Object;"), (2, u "size"), (0, u "()I"), (22, .class_ 104), (0, u "java/lang/Object"), (15, .class_ 121), (0, u "java/util/SequencedCollection")] 129

def k6m0 : Method := { name := "size", desc := "()I", sig := { parameters := [], returnType := some .int }, accessFlags := 1025, code := none }
def k6m1 : Method := { name := "get", desc := "(I)Ljava/lang/Object;", sig := { parameters := [.int], returnType := some (.object "java/lang/Object") }, accessFlags := 1025, code := none }
/-- java/util/List -/
def k6 : Class := { plain "java/util/List" (some 0) with
  accessFlags := 1537
  interfaces := #[5]
  cf := some (fileOf pool6 8 #[] #[{ accessFlags := 1025, nameIndex := 79, descriptorIndex := 80, attributes := #[] }, { accessFlags := 1025, nameIndex := 75, descriptorIndex := 76, attributes := #[] }] 1537 103 #[120] #[])
  fields := #[]
  methods := #[k6m0, k6m1]
  instanceTypes := #[]
  staticTypes := #[]
  resolved := Array.replicate 251 none
  statics := none }

def pool7 : Array CpInfo := pool [(1, .methodref 2 3), (0, .class_ 4), (0, .nameAndType 5 6), (0, u "java/util/AbstractCollection"), (0, u "<init>"), (0, u "()V"), (0, .fieldref 8 9), (0, .class_ 10), (0, .nameAndType 11 12), (0, u "java/util/AbstractList"), (0, u "modCount"), (0, u "I"), (64, .class_ 78), (0, u "java/util/AbstractList$Itr"), (3, .class_ 83), (0, u "java/util/AbstractList$ListItr"), (9, .class_ 94), (0, u "java/util/AbstractList$RandomAccessSubList"), (3, .class_ 99), (0, u "java/util/AbstractList$SubList"), (33, .class_ 134), (0, u "java/util/List"), (73, .class_ 209), (0, u "java/util/AbstractList$SubList$1"), (0, .class_ 211), (0, u "java/util/AbstractList$RandomAccessSpliterator")] 6

def k7c0 : Code := { maxStack := 2, maxLocals := 1, code := jdk_39_method_1_code, exceptionTable := #[], attributes := #[] }
def k7m0 : Method := { name := "<init>", desc := "()V", sig := { parameters := [], returnType := none }, accessFlags := 4, code := some k7c0 }
/-- java/util/AbstractList -/
def k7 : Class := { plain "java/util/AbstractList" (some 4) with
  accessFlags := 1057
  interfaces := #[6]
  cf := some (fileOf pool7 8 #[.nestMembers #[93, 98, 208, 210, 82, 77]] #[{ accessFlags := 4, nameIndex := 5, descriptorIndex := 6, attributes := #[] }] 1057 2 #[133] #[{ accessFlags := 132, nameIndex := 11, descriptorIndex := 12, attributes := #[] }])
  fields := #[{ name := "modCount", type := .int, accessFlags := 132, slot := 0, constantValue := 0 }]
  methods := #[k7m0]
  instanceTypes := #[.int]
  staticTypes := #[]
  resolved := Array.replicate 218 none
  statics := none }

def pool8 : Array CpInfo := pool [(1, .class_ 2), (0, u "java/util/RandomAccess"), (0, .class_ 4), (0, u "java/lang/Object")] 2

/-- java/util/RandomAccess -/
def k8 : Class := { plain "java/util/RandomAccess" (some 0) with
  accessFlags := 1537
  interfaces := #[]
  cf := some (fileOf pool8 1 #[] #[] 1537 3 #[] #[])
  fields := #[]
  methods := #[]
  instanceTypes := #[]
  staticTypes := #[]
  resolved := Array.replicate 7 none
  statics := none }

def pool9 : Array CpInfo := pool [(1, .class_ 2), (0, u "java/lang/Cloneable"), (0, .class_ 4), (0, u "java/lang/Object")] 2

/-- java/lang/Cloneable -/
def k9 : Class := { plain "java/lang/Cloneable" (some 0) with
  accessFlags := 1537
  interfaces := #[]
  cf := some (fileOf pool9 1 #[] #[] 1537 3 #[] #[])
  fields := #[]
  methods := #[]
  instanceTypes := #[]
  staticTypes := #[]
  resolved := Array.replicate 7 none
  statics := none }

def pool10 : Array CpInfo := pool [(1, .class_ 2), (0, u "java/io/Serializable"), (0, .class_ 4), (0, u "java/lang/Object")] 2

/-- java/io/Serializable -/
def k10 : Class := { plain "java/io/Serializable" (some 0) with
  accessFlags := 1537
  interfaces := #[]
  cf := some (fileOf pool10 1 #[] #[] 1537 3 #[] #[])
  fields := #[]
  methods := #[]
  instanceTypes := #[]
  staticTypes := #[]
  resolved := Array.replicate 7 none
  statics := none }

def pool11 : Array CpInfo := pool [(1, .methodref 2 3), (0, .class_ 4), (0, .nameAndType 5 6), (0, u "java/util/AbstractList"), (0, u "<init>"), (0, u "()V"), (0, .class_ 8), (0, u "java/lang/Object"), (0, .fieldref 10 11), (0, .class_ 12), (0, .nameAndType 13 14), (0, u "java/util/ArrayList"), (0, u "elementData"), (0, u "[Ljava/lang/Object;"), (2, u "EMPTY_ELEMENTDATA"), (21, .fieldref 10 40), (0, .nameAndType 41 14), (0, u "DEFAULTCAPACITY_EMPTY_ELEMENTDATA"), (5, u "()[Ljava/lang/Object;"), (0, .fieldref 10 49), (0, .nameAndType 50 51), (0, u "size"), (0, u "I"), (11, .fieldref 10 64), (0, .nameAndType 65 51), (0, u "modCount"), (3, .methodref 10 70), (0, .nameAndType 71 72), (0, u "grow"), (0, u "(I)[Ljava/lang/Object;"), (6, .methodref 80 81), (0, .class_ 82), (0, .nameAndType 83 84), (0, u "java/lang/Math"), (0, u "max"), (0, u "(II)I"), (11, u "(Ljava/lang/Object;)Z"), (21, .methodref 119 120), (0, .class_ 121), (0, .nameAndType 122 84), (0, u "java/util/Objects"), (0, u "checkIndex"), (0, .methodref 10 124), (0, .nameAndType 13 125), (0, u "(I)Ljava/lang/Object;"), (3, .methodref 10 130), (0, .nameAndType 71 47), (0, .methodref 10 132), (0, .nameAndType 133 134), (0, u "add"), (0, u "(Ljava/lang/Object;[Ljava/lang/Object;I)V"), (13, .class_ 149), (0, u "java/util/List"), (36, u "()I"), (75, .class_ 263), (0, u "java/util/ArrayList$ListItr"), (3, .class_ 268), (0, u "java/util/ArrayList$Itr"), (7, .class_ 277), (0, u "java/util/ArrayList$SubList"), (12, .class_ 291), (0, u "java/util/ArrayList$ArrayListSpliterator"), (37, .class_ 330), (0, u "java/util/RandomAccess"), (0, .class_ 332), (0, u "java/lang/Cloneable"), (0, .class_ 334), (0, u "java/io/Serializable"), (0, u "serialVersionUID"), (0, u "J"), (3, u "DEFAULT_CAPACITY"), (40, u "get"), (118, .class_ 501), (0, u "java/util/ArrayList$SubList$2"), (0, .class_ 503), (0, u "java/util/ArrayList$SubList$1")] 5

def k11c0 : Code := { maxStack := 2, maxLocals := 1, code := jdk_38_method_2_code, exceptionTable := #[], attributes := #[] }
def k11m0 : Method := { name := "<init>", desc := "()V", sig := { parameters := [], returnType := none }, accessFlags := 1, code := some k11c0 }
def k11c1 : Code := { maxStack := 4, maxLocals := 4, code := jdk_38_method_6_code, exceptionTable := #[], attributes := #[] }
def k11m1 : Method := { name := "grow", desc := "(I)[Ljava/lang/Object;", sig := { parameters := [.int], returnType := some (.array (.object "java/lang/Object")) }, accessFlags := 2, code := some k11c1 }
def k11c2 : Code := { maxStack := 3, maxLocals := 1, code := jdk_38_method_7_code, exceptionTable := #[], attributes := #[] }
def k11m2 : Method := { name := "grow", desc := "()[Ljava/lang/Object;", sig := { parameters := [], returnType := some (.array (.object "java/lang/Object")) }, accessFlags := 2, code := some k11c2 }
def k11c3 : Code := { maxStack := 1, maxLocals := 1, code := jdk_38_method_8_code, exceptionTable := #[], attributes := #[] }
def k11m3 : Method := { name := "size", desc := "()I", sig := { parameters := [], returnType := some .int }, accessFlags := 1, code := some k11c3 }
def k11c4 : Code := { maxStack := 2, maxLocals := 2, code := jdk_38_method_18_code, exceptionTable := #[], attributes := #[] }
def k11m4 : Method := { name := "elementData", desc := "(I)Ljava/lang/Object;", sig := { parameters := [.int], returnType := some (.object "java/lang/Object") }, accessFlags := 0, code := some k11c4 }
def k11c5 : Code := { maxStack := 2, maxLocals := 2, code := jdk_38_method_20_code, exceptionTable := #[], attributes := #[] }
def k11m5 : Method := { name := "get", desc := "(I)Ljava/lang/Object;", sig := { parameters := [.int], returnType := some (.object "java/lang/Object") }, accessFlags := 1, code := some k11c5 }
def k11c6 : Code := { maxStack := 3, maxLocals := 4, code := jdk_38_method_24_code, exceptionTable := #[], attributes := #[] }
def k11m6 : Method := { name := "add", desc := "(Ljava/lang/Object;[Ljava/lang/Object;I)V", sig := { parameters := [(.object "java/lang/Object"), (.array (.object "java/lang/Object")), .int], returnType := none }, accessFlags := 2, code := some k11c6 }
def k11c7 : Code := { maxStack := 4, maxLocals := 2, code := jdk_38_method_25_code, exceptionTable := #[], attributes := #[] }
def k11m7 : Method := { name := "add", desc := "(Ljava/lang/Object;)Z", sig := { parameters := [(.object "java/lang/Object")], returnType := some .boolean }, accessFlags := 1, code := some k11c7 }
/-- java/util/ArrayList -/
def k11 : Class := { plain "java/util/ArrayList" (some 7) with
  accessFlags := 33
  interfaces := #[6, 8, 9, 10]
  cf := some (fileOf pool11 10 #[.nestMembers #[290, 276, 500, 502, 262, 267]] #[{ accessFlags := 1, nameIndex := 5, descriptorIndex := 6, attributes := #[] }, { accessFlags := 2, nameIndex := 71, descriptorIndex := 72, attributes := #[] }, { accessFlags := 2, nameIndex := 71, descriptorIndex := 47, attributes := #[] }, { accessFlags := 1, nameIndex := 50, descriptorIndex := 186, attributes := #[] }, { accessFlags := 0, nameIndex := 13, descriptorIndex := 125, attributes := #[] }, { accessFlags := 1, nameIndex := 381, descriptorIndex := 125, attributes := #[] }, { accessFlags := 2, nameIndex := 133, descriptorIndex := 134, attributes := #[] }, { accessFlags := 1, nameIndex := 133, descriptorIndex := 96, attributes := #[] }] 33 2 #[148, 329, 331, 333] #[{ accessFlags := 26, nameIndex := 335, descriptorIndex := 336, attributes := #[] }, { accessFlags := 26, nameIndex := 340, descriptorIndex := 51, attributes := #[] }, { accessFlags := 26, nameIndex := 17, descriptorIndex := 14, attributes := #[] }, { accessFlags := 26, nameIndex := 41, descriptorIndex := 14, attributes := #[] }, { accessFlags := 128, nameIndex := 13, descriptorIndex := 14, attributes := #[] }, { accessFlags := 2, nameIndex := 50, descriptorIndex := 51, attributes := #[] }])
  fields := #[{ name := "serialVersionUID", type := .long, accessFlags := 26, slot := 0, constantValue := 0 }, { name := "DEFAULT_CAPACITY", type := .int, accessFlags := 26, slot := 1, constantValue := 0 }, { name := "EMPTY_ELEMENTDATA", type := (.array (.object "java/lang/Object")), accessFlags := 26, slot := 2, constantValue := 0 }, { name := "DEFAULTCAPACITY_EMPTY_ELEMENTDATA", type := (.array (.object "java/lang/Object")), accessFlags := 26, slot := 3, constantValue := 0 }, { name := "elementData", type := (.array (.object "java/lang/Object")), accessFlags := 128, slot := 1, constantValue := 0 }, { name := "size", type := .int, accessFlags := 2, slot := 2, constantValue := 0 }]
  methods := #[k11m0, k11m1, k11m2, k11m3, k11m4, k11m5, k11m6, k11m7]
  instanceTypes := #[.int, (.array (.object "java/lang/Object")), .int]
  staticTypes := #[.long, .int, (.array (.object "java/lang/Object")), (.array (.object "java/lang/Object"))]
  resolved := Array.replicate 509 none
  statics := some 0 }

def pool12 : Array CpInfo := pool [(1, .methodref 2 3), (0, .class_ 4), (0, .nameAndType 5 6), (0, u "java/lang/Object"), (0, u "<init>"), (0, u "()V"), (0, .class_ 8), (0, u "java/lang/Record")] 13

def k12c0 : Code := { maxStack := 1, maxLocals := 1, code := jdk_30_method_1_code, exceptionTable := #[], attributes := #[] }
def k12m0 : Method := { name := "<init>", desc := "()V", sig := { parameters := [], returnType := none }, accessFlags := 4, code := some k12c0 }
/-- java/lang/Record -/
def k12 : Class := { plain "java/lang/Record" (some 0) with
  accessFlags := 1057
  interfaces := #[]
  cf := some (fileOf pool12 7 #[] #[{ accessFlags := 4, nameIndex := 5, descriptorIndex := 6, attributes := #[] }] 1057 2 #[] #[])
  fields := #[]
  methods := #[k12m0]
  instanceTypes := #[]
  staticTypes := #[]
  resolved := Array.replicate 22 none
  statics := none }

def pool13 : Array CpInfo := pool [(1, .methodref 2 3), (0, .class_ 4), (0, .nameAndType 5 6), (0, u "java/lang/Record"), (0, u "<init>"), (0, u "()V"), (0, .string 8), (0, u "period"), (0, .methodref 10 11), (0, .class_ 12), (0, .nameAndType 13 14), (0, u "java/util/Objects"), (0, u "requireNonNull"), (0, u "(Ljava/lang/Object;Ljava/lang/String;)Ljava/lang/Object;"), (9, .fieldref 25 26), (0, .class_ 27), (0, .nameAndType 28 29), (0, u "java/time/Duration"), (0, u "ZERO"), (0, u "Ljava/time/Duration;"), (0, .methodref 25 31), (0, .nameAndType 32 33), (0, u "compareTo"), (0, u "(Ljava/time/Duration;)I"), (9, .fieldref 44 45), (0, .class_ 46), (0, .nameAndType 47 29), (0, u "com/example/steady_sluice/steadysluice/Rule"), (0, u "LONGEST_PERIOD"), (3, .fieldref 44 52), (0, .nameAndType 53 54), (0, u "count"), (0, u "I"), (0, .fieldref 44 56), (0, .nameAndType 8 29), (20, u "(ILjava/time/Duration;)V"), (5, u "()I"), (1, u "()Ljava/time/Duration;")] 34

def k13c0 : Code := { maxStack := 4, maxLocals := 3, code := prog_17_method_1_code, exceptionTable := #[], attributes := #[] }
def k13m0 : Method := { name := "<init>", desc := "(ILjava/time/Duration;)V", sig := { parameters := [.int, (.object "java/time/Duration")], returnType := none }, accessFlags := 1, code := some k13c0 }
def k13c1 : Code := { maxStack := 1, maxLocals := 1, code := prog_17_method_5_code, exceptionTable := #[], attributes := #[] }
def k13m1 : Method := { name := "count", desc := "()I", sig := { parameters := [], returnType := some .int }, accessFlags := 1, code := some k13c1 }
def k13c2 : Code := { maxStack := 1, maxLocals := 1, code := prog_17_method_6_code, exceptionTable := #[], attributes := #[] }
def k13m2 : Method := { name := "period", desc := "()Ljava/time/Duration;", sig := { parameters := [], returnType := some (.object "java/time/Duration") }, accessFlags := 1, code := some k13c2 }
/-- com/example/steady_sluice/steadysluice/Rule -/
def k13 : Class := { plain "com/example/steady_sluice/steadysluice/Rule" (some 12) with
  accessFlags := 49
  interfaces := #[]
  cf := some (fileOf pool13 44 #[] #[{ accessFlags := 1, nameIndex := 5, descriptorIndex := 77, attributes := #[] }, { accessFlags := 1, nameIndex := 53, descriptorIndex := 83, attributes := #[] }, { accessFlags := 1, nameIndex := 8, descriptorIndex := 85, attributes := #[] }] 49 2 #[] #[{ accessFlags := 18, nameIndex := 53, descriptorIndex := 54, attributes := #[] }, { accessFlags := 18, nameIndex := 8, descriptorIndex := 29, attributes := #[] }, { accessFlags := 26, nameIndex := 47, descriptorIndex := 29, attributes := #[] }])
  fields := #[{ name := "count", type := .int, accessFlags := 18, slot := 0, constantValue := 0 }, { name := "period", type := (.object "java/time/Duration"), accessFlags := 18, slot := 1, constantValue := 0 }, { name := "LONGEST_PERIOD", type := (.object "java/time/Duration"), accessFlags := 26, slot := 0, constantValue := 0 }]
  methods := #[k13m0, k13m1, k13m2]
  instanceTypes := #[.int, (.object "java/time/Duration")]
  staticTypes := #[(.object "java/time/Duration")]
  resolved := Array.replicate 120 none
  statics := some 1 }

def pool14 : Array CpInfo := pool [(1, .class_ 2), (0, u "java/time/temporal/TemporalAmount"), (0, .class_ 4), (0, u "java/lang/Object")] 11

/-- java/time/temporal/TemporalAmount -/
def k14 : Class := { plain "java/time/temporal/TemporalAmount" (some 0) with
  accessFlags := 1537
  interfaces := #[]
  cf := some (fileOf pool14 1 #[] #[] 1537 3 #[] #[])
  fields := #[]
  methods := #[]
  instanceTypes := #[]
  staticTypes := #[]
  resolved := Array.replicate 16 none
  statics := none }

def pool15 : Array CpInfo := pool [(1, .class_ 2), (0, u "java/lang/Comparable"), (0, .class_ 4), (0, u "java/lang/Object")] 7

/-- java/lang/Comparable -/
def k15 : Class := { plain "java/lang/Comparable" (some 0) with
  accessFlags := 1537
  interfaces := #[]
  cf := some (fileOf pool15 1 #[] #[] 1537 3 #[] #[])
  fields := #[]
  methods := #[]
  instanceTypes := #[]
  staticTypes := #[]
  resolved := Array.replicate 12 none
  statics := none }

def pool16 : Array CpInfo := pool [(5, .class_ 7), (1, u "java/lang/Math"), (0, u "multiplyExact"), (1, .methodref 11 12), (0, .class_ 13), (0, .nameAndType 14 15), (0, u "java/time/Duration"), (0, u "create"), (0, u "(JI)Ljava/time/Duration;"), (0, .long 1000000000), (4, u "(JJ)J"), (0, .methodref 5 23), (0, .nameAndType 24 21), (0, u "addExact"), (9, u "ZERO"), (0, u "Ljava/time/Duration;"), (13, .class_ 51), (1, u "java/time/temporal/TemporalAmount"), (27, .class_ 81), (1, u "java/time/Duration$Lazy"), (35, u "seconds"), (21, u "<init>"), (7, .class_ 149), (1, u "java/lang/Long"), (7, .nameAndType 139 158), (0, u "()V"), (39, u "ofNanos"), (0, u "(J)Ljava/time/Duration;"), (15, .methodref 11 216), (0, .nameAndType 139 217), (0, u "(JI)V"), (0, .methodref 219 157), (0, .class_ 220), (0, u "java/lang/Object"), (0, .fieldref 11 222), (0, .nameAndType 117 223), (0, u "J"), (0, .fieldref 11 225), (0, .nameAndType 226 227), (0, u "nanos"), (0, u "I"), (11, .class_ 241), (1, u "java/time/Duration$DurationUnits"), (9, u "()J"), (17, .class_ 271), (1, u "java/time/Duration$1"), (17, .methodref 5 290), (0, .nameAndType 8 21), (72, u "BI_NANOS_PER_SECOND"), (0, u "Ljava/math/BigInteger;"), (46, u "toNanos"), (4, .methodref 147 417), (0, .nameAndType 418 419), (0, u "compare"), (0, u "(JJ)I"), (60, u "compareTo"), (0, u "(Ljava/time/Duration;)I"), (3, .class_ 486), (0, u "java/lang/Comparable"), (0, .class_ 488), (0, u "java/io/Serializable"), (0, u "serialVersionUID")] 166

def k16c0 : Code := { maxStack := 4, maxLocals := 5, code := jdk_2316_method_7_code, exceptionTable := #[], attributes := #[] }
def k16m0 : Method := { name := "ofNanos", desc := "(J)Ljava/time/Duration;", sig := { parameters := [.long], returnType := some (.object "java/time/Duration") }, accessFlags := 9, code := some k16c0 }
def k16c1 : Code := { maxStack := 5, maxLocals := 3, code := jdk_2316_method_16_code, exceptionTable := #[], attributes := #[] }
def k16m1 : Method := { name := "create", desc := "(JI)Ljava/time/Duration;", sig := { parameters := [.long, .int], returnType := some (.object "java/time/Duration") }, accessFlags := 10, code := some k16c1 }
def k16c2 : Code := { maxStack := 3, maxLocals := 4, code := jdk_2316_method_17_code, exceptionTable := #[], attributes := #[] }
def k16m2 : Method := { name := "<init>", desc := "(JI)V", sig := { parameters := [.long, .int], returnType := none }, accessFlags := 2, code := some k16c2 }
def k16c3 : Code := { maxStack := 4, maxLocals := 7, code := jdk_2316_method_58_code, exceptionTable := #[], attributes := #[] }
def k16m3 : Method := { name := "toNanos", desc := "()J", sig := { parameters := [], returnType := some .long }, accessFlags := 1, code := some k16c3 }
def k16c4 : Code := { maxStack := 4, maxLocals := 3, code := jdk_2316_method_66_code, exceptionTable := #[], attributes := #[] }
def k16m4 : Method := { name := "compareTo", desc := "(Ljava/time/Duration;)I", sig := { parameters := [(.object "java/time/Duration")], returnType := some .int }, accessFlags := 1, code := some k16c4 }
/-- java/time/Duration -/
def k16 : Class := { plain "java/time/Duration" (some 0) with
  accessFlags := 49
  interfaces := #[14, 15, 10]
  cf := some (fileOf pool16 11 #[.nestMembers #[269, 239, 79]] #[{ accessFlags := 9, nameIndex := 198, descriptorIndex := 199, attributes := #[] }, { accessFlags := 10, nameIndex := 14, descriptorIndex := 15, attributes := #[] }, { accessFlags := 2, nameIndex := 139, descriptorIndex := 217, attributes := #[] }, { accessFlags := 1, nameIndex := 411, descriptorIndex := 251, attributes := #[] }, { accessFlags := 1, nameIndex := 480, descriptorIndex := 481, attributes := #[] }] 49 219 #[49, 485, 487] #[{ accessFlags := 25, nameIndex := 34, descriptorIndex := 35, attributes := #[] }, { accessFlags := 26, nameIndex := 489, descriptorIndex := 223, attributes := #[] }, { accessFlags := 26, nameIndex := 363, descriptorIndex := 364, attributes := #[] }, { accessFlags := 18, nameIndex := 117, descriptorIndex := 223, attributes := #[] }, { accessFlags := 18, nameIndex := 226, descriptorIndex := 227, attributes := #[] }])
  fields := #[{ name := "ZERO", type := (.object "java/time/Duration"), accessFlags := 25, slot := 0, constantValue := 0 }, { name := "serialVersionUID", type := .long, accessFlags := 26, slot := 1, constantValue := 0 }, { name := "BI_NANOS_PER_SECOND", type := (.object "java/math/BigInteger"), accessFlags := 26, slot := 2, constantValue := 0 }, { name := "seconds", type := .long, accessFlags := 18, slot := 0, constantValue := 0 }, { name := "nanos", type := .int, accessFlags := 18, slot := 1, constantValue := 0 }]
  methods := #[k16m0, k16m1, k16m2, k16m3, k16m4]
  instanceTypes := #[.long, .int]
  staticTypes := #[(.object "java/time/Duration"), .long, (.object "java/math/BigInteger")]
  resolved := Array.replicate 656 none
  statics := some 2 }

def pool17 : Array CpInfo := pool [(2, .class_ 4), (1, u "java/lang/CharSequence"), (42, .class_ 48), (0, u "java/lang/CharSequence$1CodePointIterator"), (10, .class_ 60), (0, u "java/lang/CharSequence$1CharIterator"), (5, .class_ 67), (0, u "java/lang/Object")] 63

/-- java/lang/CharSequence -/
def k17 : Class := { plain "java/lang/CharSequence" (some 0) with
  accessFlags := 1537
  interfaces := #[]
  cf := some (fileOf pool17 2 #[.nestMembers #[47, 59]] #[] 1537 66 #[] #[])
  fields := #[]
  methods := #[]
  instanceTypes := #[]
  staticTypes := #[]
  resolved := Array.replicate 131 none
  statics := none }

def pool18 : Array CpInfo := pool [(1, .class_ 2), (0, u "java/lang/constant/Constable"), (0, .class_ 4), (0, u "java/lang/Object")] 6

/-- java/lang/constant/Constable -/
def k18 : Class := { plain "java/lang/constant/Constable" (some 0) with
  accessFlags := 1537
  interfaces := #[]
  cf := some (fileOf pool18 1 #[] #[] 1537 3 #[] #[])
  fields := #[]
  methods := #[]
  instanceTypes := #[]
  staticTypes := #[]
  resolved := Array.replicate 11 none
  statics := none }

def pool19 : Array CpInfo := pool [(1, .class_ 2), (0, u "java/lang/constant/ConstantDesc"), (0, .class_ 4), (0, u "java/lang/Object")] 32

/-- java/lang/constant/ConstantDesc -/
def k19 : Class := { plain "java/lang/constant/ConstantDesc" (some 0) with
  accessFlags := 1537
  interfaces := #[]
  cf := some (fileOf pool19 1 #[] #[] 1537 3 #[] #[])
  fields := #[]
  methods := #[]
  instanceTypes := #[]
  staticTypes := #[]
  resolved := Array.replicate 37 none
  statics := none }

def pool20 : Array CpInfo := pool [(2, .class_ 4), (1, u "java/lang/Object"), (0, u "<init>"), (0, u "()V"), (3, .class_ 12), (1, u "java/lang/String"), (0, u "value"), (0, u "[B"), (2, u "coder"), (0, u "B"), (2, u "hash"), (0, u "I"), (2, u "hashIsZero"), (0, u "Z"), (13, u "COMPACT_STRINGS"), (534, .class_ 576), (0, u "java/lang/CharSequence"), (22, u "CASE_INSENSITIVE_ORDER"), (0, u "Ljava/util/Comparator;"), (500, u "serialPersistentFields"), (0, u "[Ljava/io/ObjectStreamField;"), (0, .class_ 1104), (0, u "java/lang/String$CaseInsensitiveComparator"), (1, .class_ 1107), (0, u "java/io/Serializable"), (0, .class_ 1109), (0, u "java/lang/Comparable"), (0, .class_ 1111), (0, u "java/lang/constant/Constable"), (0, .class_ 1113), (0, u "java/lang/constant/ConstantDesc"), (2, u "serialVersionUID"), (0, u "J"), (3, u "REPL"), (0, u "C"), (2, u "LATIN1"), (1, u "UTF16")] 323

def k20m0 : Method := { name := "<init>", desc := "()V", sig := { parameters := [], returnType := none }, accessFlags := 1, code := none }
/-- java/lang/String -/
def k20 : Class := { plain "java/lang/String" (some 0) with
  accessFlags := 49
  interfaces := #[10, 15, 17, 18, 19]
  cf := some (fileOf pool20 10 #[.nestMembers #[1103]] #[{ accessFlags := 1, nameIndex := 5, descriptorIndex := 6, attributes := #[] }] 49 2 #[1106, 1108, 575, 1110, 1112] #[{ accessFlags := 18, nameIndex := 13, descriptorIndex := 14, attributes := #[] }, { accessFlags := 18, nameIndex := 17, descriptorIndex := 18, attributes := #[] }, { accessFlags := 2, nameIndex := 21, descriptorIndex := 22, attributes := #[] }, { accessFlags := 2, nameIndex := 25, descriptorIndex := 26, attributes := #[] }, { accessFlags := 26, nameIndex := 1116, descriptorIndex := 1117, attributes := #[] }, { accessFlags := 24, nameIndex := 40, descriptorIndex := 26, attributes := #[] }, { accessFlags := 26, nameIndex := 1101, descriptorIndex := 1102, attributes := #[] }, { accessFlags := 26, nameIndex := 1121, descriptorIndex := 1122, attributes := #[] }, { accessFlags := 25, nameIndex := 599, descriptorIndex := 600, attributes := #[] }, { accessFlags := 24, nameIndex := 1125, descriptorIndex := 18, attributes := #[] }, { accessFlags := 24, nameIndex := 1127, descriptorIndex := 18, attributes := #[] }])
  fields := #[{ name := "value", type := (.array .byte), accessFlags := 18, slot := 0, constantValue := 0 }, { name := "coder", type := .byte, accessFlags := 18, slot := 1, constantValue := 0 }, { name := "hash", type := .int, accessFlags := 2, slot := 2, constantValue := 0 }, { name := "hashIsZero", type := .boolean, accessFlags := 2, slot := 3, constantValue := 0 }, { name := "serialVersionUID", type := .long, accessFlags := 26, slot := 0, constantValue := 0 }, { name := "COMPACT_STRINGS", type := .boolean, accessFlags := 24, slot := 1, constantValue := 0 }, { name := "serialPersistentFields", type := (.array (.object "java/io/ObjectStreamField")), accessFlags := 26, slot := 2, constantValue := 0 }, { name := "REPL", type := .char, accessFlags := 26, slot := 3, constantValue := 0 }, { name := "CASE_INSENSITIVE_ORDER", type := (.object "java/util/Comparator"), accessFlags := 25, slot := 4, constantValue := 0 }, { name := "LATIN1", type := .byte, accessFlags := 24, slot := 5, constantValue := 0 }, { name := "UTF16", type := .byte, accessFlags := 24, slot := 6, constantValue := 0 }]
  methods := #[k20m0]
  instanceTypes := #[(.array .byte), .byte, .int, .boolean]
  staticTypes := #[.long, .boolean, (.array (.object "java/io/ObjectStreamField")), .char, (.object "java/util/Comparator"), .byte, .byte]
  resolved := Array.replicate 1451 none
  statics := none }

def pool21 : Array CpInfo := pool [(2, .class_ 4), (1, u "java/lang/Object"), (0, u "<init>"), (0, u "()V"), (35, .class_ 44), (1, u "java/util/Objects"), (0, u "requireNonNull"), (48, u "(Ljava/lang/Object;Ljava/lang/String;)Ljava/lang/Object;"), (10, .methodref 106 107), (0, .class_ 108), (0, .nameAndType 109 110), (0, u "jdk/internal/util/Preconditions"), (0, u "checkIndex"), (0, u "(IILjava/util/function/BiFunction;)I"), (60, u "(II)I")] 12

def k21m0 : Method := { name := "<init>", desc := "()V", sig := { parameters := [], returnType := none }, accessFlags := 2, code := none }
def k21c1 : Code := { maxStack := 3, maxLocals := 2, code := jdk_31_method_11_code, exceptionTable := #[], attributes := #[] }
def k21m1 : Method := { name := "requireNonNull", desc := "(Ljava/lang/Object;Ljava/lang/String;)Ljava/lang/Object;", sig := { parameters := [(.object "java/lang/Object"), (.object "java/lang/String")], returnType := some (.object "java/lang/Object") }, accessFlags := 9, code := some k21c1 }
def k21c2 : Code := { maxStack := 3, maxLocals := 2, code := jdk_31_method_17_code, exceptionTable := #[], attributes := #[] }
def k21m2 : Method := { name := "checkIndex", desc := "(II)I", sig := { parameters := [.int, .int], returnType := some .int }, accessFlags := 9, code := some k21c2 }
/-- java/util/Objects -/
def k21 : Class := { plain "java/util/Objects" (some 0) with
  accessFlags := 49
  interfaces := #[]
  cf := some (fileOf pool21 42 #[] #[{ accessFlags := 2, nameIndex := 5, descriptorIndex := 6, attributes := #[] }, { accessFlags := 9, nameIndex := 45, descriptorIndex := 94, attributes := #[] }, { accessFlags := 9, nameIndex := 109, descriptorIndex := 171, attributes := #[] }] 49 2 #[] #[])
  fields := #[]
  methods := #[k21m0, k21m1, k21m2]
  instanceTypes := #[]
  staticTypes := #[]
  resolved := Array.replicate 184 none
  statics := none }

def pool22 : Array CpInfo := pool [(2, .class_ 4), (1, u "java/lang/Object"), (0, u "<init>"), (0, u "()V"), (1, .class_ 10), (1, u "java/lang/Number"), (2, .class_ 14), (0, u "java/io/Serializable"), (0, u "serialVersionUID"), (0, u "J")] 20

def k22m0 : Method := { name := "<init>", desc := "()V", sig := { parameters := [], returnType := none }, accessFlags := 1, code := none }
/-- java/lang/Number -/
def k22 : Class := { plain "java/lang/Number" (some 0) with
  accessFlags := 1057
  interfaces := #[10]
  cf := some (fileOf pool22 8 #[] #[{ accessFlags := 1, nameIndex := 5, descriptorIndex := 6, attributes := #[] }] 1057 2 #[13] #[{ accessFlags := 26, nameIndex := 15, descriptorIndex := 16, attributes := #[] }])
  fields := #[{ name := "serialVersionUID", type := .long, accessFlags := 26, slot := 0, constantValue := 0 }]
  methods := #[k22m0]
  instanceTypes := #[]
  staticTypes := #[.long]
  resolved := Array.replicate 37 none
  statics := none }

def pool23 : Array CpInfo := pool [(1, .class_ 2), (0, u "java/lang/Long"), (232, .class_ 237), (1, u "java/lang/Long$LongCache"), (33, .class_ 272), (0, u "java/lang/Number"), (2, u "value"), (0, u "J"), (27, u "compare"), (0, u "(JJ)I"), (55, u "TYPE"), (0, u "Ljava/lang/Class;"), (0, .class_ 364), (0, u "java/lang/Comparable"), (0, .class_ 366), (0, u "java/lang/constant/Constable"), (0, .class_ 368), (0, u "java/lang/constant/ConstantDesc"), (0, u "MIN_VALUE"), (1, u "MAX_VALUE"), (4, u "SIZE"), (0, u "I"), (1, u "BYTES"), (1, u "serialVersionUID")] 142

def k23c0 : Code := { maxStack := 4, maxLocals := 4, code := jdk_35_method_42_code, exceptionTable := #[], attributes := #[] }
def k23m0 : Method := { name := "compare", desc := "(JJ)I", sig := { parameters := [.long, .long], returnType := some .int }, accessFlags := 9, code := some k23c0 }
/-- java/lang/Long -/
def k23 : Class := { plain "java/lang/Long" (some 22) with
  accessFlags := 49
  interfaces := #[15, 18, 19]
  cf := some (fileOf pool23 1 #[.nestMembers #[235]] #[{ accessFlags := 9, nameIndex := 304, descriptorIndex := 305, attributes := #[] }] 49 271 #[363, 365, 367] #[{ accessFlags := 25, nameIndex := 369, descriptorIndex := 276, attributes := #[] }, { accessFlags := 25, nameIndex := 371, descriptorIndex := 276, attributes := #[] }, { accessFlags := 25, nameIndex := 361, descriptorIndex := 362, attributes := #[] }, { accessFlags := 18, nameIndex := 275, descriptorIndex := 276, attributes := #[] }, { accessFlags := 25, nameIndex := 376, descriptorIndex := 377, attributes := #[] }, { accessFlags := 25, nameIndex := 379, descriptorIndex := 377, attributes := #[] }, { accessFlags := 26, nameIndex := 381, descriptorIndex := 276, attributes := #[] }])
  fields := #[{ name := "MIN_VALUE", type := .long, accessFlags := 25, slot := 0, constantValue := 0 }, { name := "MAX_VALUE", type := .long, accessFlags := 25, slot := 1, constantValue := 0 }, { name := "TYPE", type := (.object "java/lang/Class"), accessFlags := 25, slot := 2, constantValue := 0 }, { name := "value", type := .long, accessFlags := 18, slot := 0, constantValue := 0 }, { name := "SIZE", type := .int, accessFlags := 25, slot := 3, constantValue := 0 }, { name := "BYTES", type := .int, accessFlags := 25, slot := 4, constantValue := 0 }, { name := "serialVersionUID", type := .long, accessFlags := 26, slot := 5, constantValue := 0 }]
  methods := #[k23m0]
  instanceTypes := #[.long]
  staticTypes := #[.long, .long, (.object "java/lang/Class"), .int, .int, .long]
  resolved := Array.replicate 524 none
  statics := none }

def pool24 : Array CpInfo := pool [(1, .class_ 2), (0, u "java/lang/Math"), (1, .class_ 6), (1, u "java/lang/Object"), (0, u "<init>"), (0, u "()V"), (89, .class_ 100), (1, u "java/lang/Math$RandomNumberGeneratorHolder"), (19, u "multiplyExact"), (0, u "(JJ)J"), (0, .methodref 1 123), (0, .nameAndType 124 125), (0, u "abs"), (0, u "(J)J"), (46, u "negativeZeroFloatBits"), (0, u "J"), (2, u "negativeZeroDoubleBits"), (21, u "max"), (2, u "min"), (43, u "$assertionsDisabled"), (0, u "Z"), (88, u "(II)I"), (2, u "twoToTheDoubleScaleDown"), (0, u "D"), (4, u "twoToTheDoubleScaleUp"), (9, u "E"), (3, u "PI"), (2, u "TAU"), (2, u "DEGREES_TO_RADIANS"), (0, u "RADIANS_TO_DEGREES"), (27, u "addExact")] 66

def k24m0 : Method := { name := "<init>", desc := "()V", sig := { parameters := [], returnType := none }, accessFlags := 2, code := none }
def k24c1 : Code := { maxStack := 6, maxLocals := 6, code := jdk_29_method_25_code, exceptionTable := #[], attributes := #[] }
def k24m1 : Method := { name := "addExact", desc := "(JJ)J", sig := { parameters := [.long, .long], returnType := some .long }, accessFlags := 9, code := some k24c1 }
def k24c2 : Code := { maxStack := 4, maxLocals := 10, code := jdk_29_method_30_code, exceptionTable := #[], attributes := #[] }
def k24m2 : Method := { name := "multiplyExact", desc := "(JJ)J", sig := { parameters := [.long, .long], returnType := some .long }, accessFlags := 9, code := some k24c2 }
def k24c3 : Code := { maxStack := 4, maxLocals := 2, code := jdk_29_method_61_code, exceptionTable := #[], attributes := #[] }
def k24m3 : Method := { name := "abs", desc := "(J)J", sig := { parameters := [.long], returnType := some .long }, accessFlags := 9, code := some k24c3 }
def k24c4 : Code := { maxStack := 2, maxLocals := 2, code := jdk_29_method_65_code, exceptionTable := #[], attributes := #[] }
def k24m4 : Method := { name := "max", desc := "(II)I", sig := { parameters := [.int, .int], returnType := some .int }, accessFlags := 9, code := some k24c4 }
def k24c5 : Code := { maxStack := 4, maxLocals := 4, code := jdk_29_method_66_code, exceptionTable := #[], attributes := #[] }
def k24m5 : Method := { name := "max", desc := "(JJ)J", sig := { parameters := [.long, .long], returnType := some .long }, accessFlags := 9, code := some k24c5 }
def k24c6 : Code := { maxStack := 2, maxLocals := 2, code := jdk_29_method_69_code, exceptionTable := #[], attributes := #[] }
def k24m6 : Method := { name := "min", desc := "(II)I", sig := { parameters := [.int, .int], returnType := some .int }, accessFlags := 9, code := some k24c6 }
/-- java/lang/Math -/
def k24 : Class := { plain "java/lang/Math" (some 0) with
  accessFlags := 49
  interfaces := #[]
  cf := some (fileOf pool24 1 #[.nestMembers #[98]] #[{ accessFlags := 2, nameIndex := 7, descriptorIndex := 8, attributes := #[] }, { accessFlags := 9, nameIndex := 393, descriptorIndex := 121, attributes := #[] }, { accessFlags := 9, nameIndex := 120, descriptorIndex := 121, attributes := #[] }, { accessFlags := 9, nameIndex := 124, descriptorIndex := 125, attributes := #[] }, { accessFlags := 9, nameIndex := 198, descriptorIndex := 335, attributes := #[] }, { accessFlags := 9, nameIndex := 198, descriptorIndex := 121, attributes := #[] }, { accessFlags := 9, nameIndex := 201, descriptorIndex := 335, attributes := #[] }] 49 4 #[] #[{ accessFlags := 25, nameIndex := 354, descriptorIndex := 339, attributes := #[] }, { accessFlags := 25, nameIndex := 358, descriptorIndex := 339, attributes := #[] }, { accessFlags := 25, nameIndex := 361, descriptorIndex := 339, attributes := #[] }, { accessFlags := 26, nameIndex := 364, descriptorIndex := 339, attributes := #[] }, { accessFlags := 26, nameIndex := 365, descriptorIndex := 339, attributes := #[] }, { accessFlags := 26, nameIndex := 172, descriptorIndex := 173, attributes := #[] }, { accessFlags := 26, nameIndex := 176, descriptorIndex := 173, attributes := #[] }, { accessFlags := 8, nameIndex := 344, descriptorIndex := 339, attributes := #[] }, { accessFlags := 8, nameIndex := 338, descriptorIndex := 339, attributes := #[] }, { accessFlags := 4120, nameIndex := 245, descriptorIndex := 246, attributes := #[] }])
  fields := #[{ name := "E", type := .double, accessFlags := 25, slot := 0, constantValue := 0 }, { name := "PI", type := .double, accessFlags := 25, slot := 1, constantValue := 0 }, { name := "TAU", type := .double, accessFlags := 25, slot := 2, constantValue := 0 }, { name := "DEGREES_TO_RADIANS", type := .double, accessFlags := 26, slot := 3, constantValue := 0 }, { name := "RADIANS_TO_DEGREES", type := .double, accessFlags := 26, slot := 4, constantValue := 0 }, { name := "negativeZeroFloatBits", type := .long, accessFlags := 26, slot := 5, constantValue := 0 }, { name := "negativeZeroDoubleBits", type := .long, accessFlags := 26, slot := 6, constantValue := 0 }, { name := "twoToTheDoubleScaleUp", type := .double, accessFlags := 8, slot := 7, constantValue := 0 }, { name := "twoToTheDoubleScaleDown", type := .double, accessFlags := 8, slot := 8, constantValue := 0 }, { name := "$assertionsDisabled", type := .boolean, accessFlags := 4120, slot := 9, constantValue := 0 }]
  methods := #[k24m0, k24m1, k24m2, k24m3, k24m4, k24m5, k24m6]
  instanceTypes := #[]
  staticTypes := #[.double, .double, .double, .double, .double, .long, .long, .double, .double, .boolean]
  resolved := Array.replicate 460 none
  statics := none }

def pool25 : Array CpInfo := pool [(1, .methodref 2 3), (0, .class_ 4), (0, .nameAndType 5 6), (0, u "java/lang/Object"), (0, u "<init>"), (0, u "()V"), (0, .interfaceMethodref 8 9), (0, .class_ 10), (0, .nameAndType 11 12), (0, u "java/util/List"), (0, u "size"), (0, u "()I"), (0, .fieldref 14 15), (0, .class_ 16), (0, .nameAndType 17 18), (0, u "com/example/steady_sluice/steadysluice/RuleSet"), (0, u "counts"), (0, u "[I"), (0, .fieldref 14 20), (0, .nameAndType 21 22), (0, u "periodNanos"), (0, u "[J"), (2, .integer 2147483647), (0, .interfaceMethodref 8 27), (0, .nameAndType 28 29), (0, u "get"), (0, u "(I)Ljava/lang/Object;"), (0, .class_ 31), (0, u "com/example/steady_sluice/steadysluice/Rule"), (0, .methodref 30 33), (0, .nameAndType 34 12), (0, u "count"), (0, .methodref 30 36), (0, .nameAndType 37 38), (0, u "period"), (0, u "()Ljava/time/Duration;"), (0, .methodref 40 41), (0, .class_ 42), (0, .nameAndType 43 44), (0, u "java/time/Duration"), (0, u "toNanos"), (0, u "()J"), (0, .methodref 46 47), (0, .class_ 48), (0, .nameAndType 49 50), (0, u "java/lang/Math"), (0, u "max"), (0, u "(II)I"), (0, .methodref 46 52), (0, .nameAndType 53 50), (0, u "min"), (0, .methodref 46 55), (0, .nameAndType 49 56), (0, u "(JJ)J"), (0, .fieldref 14 58), (0, .nameAndType 59 60), (0, u "largestCount"), (0, u "I"), (0, .fieldref 14 62), (0, .nameAndType 63 60), (0, u "smallestCount"), (0, .fieldref 14 65), (0, .nameAndType 66 67), (0, u "longestPeriodNanos"), (0, u "J"), (0, u "(Ljava/util/List;)V"), (8, u "(I)J"), (0, u "longestPeriodAbove")] 2

def k25c0 : Code := { maxStack := 4, maxLocals := 7, code := prog_18_method_1_code, exceptionTable := #[], attributes := #[] }
def k25m0 : Method := { name := "<init>", desc := "(Ljava/util/List;)V", sig := { parameters := [(.object "java/util/List")], returnType := none }, accessFlags := 0, code := some k25c0 }
def k25c1 : Code := { maxStack := 1, maxLocals := 1, code := prog_18_method_6_code, exceptionTable := #[], attributes := #[] }
def k25m1 : Method := { name := "largestCount", desc := "()I", sig := { parameters := [], returnType := some .int }, accessFlags := 0, code := some k25c1 }
def k25c2 : Code := { maxStack := 4, maxLocals := 5, code := prog_18_method_7_code, exceptionTable := #[], attributes := #[] }
def k25m2 : Method := { name := "longestPeriodAbove", desc := "(I)J", sig := { parameters := [.int], returnType := some .long }, accessFlags := 0, code := some k25c2 }
/-- com/example/steady_sluice/steadysluice/RuleSet -/
def k25 : Class := { plain "com/example/steady_sluice/steadysluice/RuleSet" (some 0) with
  accessFlags := 32
  interfaces := #[]
  cf := some (fileOf pool25 14 #[] #[{ accessFlags := 0, nameIndex := 5, descriptorIndex := 68, attributes := #[] }, { accessFlags := 0, nameIndex := 59, descriptorIndex := 12, attributes := #[] }, { accessFlags := 0, nameIndex := 78, descriptorIndex := 77, attributes := #[] }] 32 2 #[] #[{ accessFlags := 18, nameIndex := 17, descriptorIndex := 18, attributes := #[] }, { accessFlags := 18, nameIndex := 21, descriptorIndex := 22, attributes := #[] }, { accessFlags := 18, nameIndex := 59, descriptorIndex := 60, attributes := #[] }, { accessFlags := 18, nameIndex := 63, descriptorIndex := 60, attributes := #[] }, { accessFlags := 18, nameIndex := 66, descriptorIndex := 67, attributes := #[] }])
  fields := #[{ name := "counts", type := (.array .int), accessFlags := 18, slot := 0, constantValue := 0 }, { name := "periodNanos", type := (.array .long), accessFlags := 18, slot := 1, constantValue := 0 }, { name := "largestCount", type := .int, accessFlags := 18, slot := 2, constantValue := 0 }, { name := "smallestCount", type := .int, accessFlags := 18, slot := 3, constantValue := 0 }, { name := "longestPeriodNanos", type := .long, accessFlags := 18, slot := 4, constantValue := 0 }]
  methods := #[k25m0, k25m1, k25m2]
  instanceTypes := #[(.array .int), (.array .long), .int, .int, .long]
  staticTypes := #[]
  resolved := Array.replicate 81 none
  statics := none }

def pool26 : Array CpInfo := pool [(2, .class_ 4), (1, u "java/lang/Object"), (0, u "<init>"), (0, u "()V"), (17, .class_ 26), (1, u "jdk/internal/util/Preconditions"), (6, u "checkIndex"), (21, .class_ 56), (0, u "jdk/internal/util/Preconditions$4"), (57, .class_ 115), (0, u "jdk/internal/util/Preconditions$1"), (7, u "SIOOBE_FORMATTER"), (0, u "Ljava/util/function/BiFunction;"), (0, .class_ 126), (0, u "jdk/internal/util/Preconditions$2"), (3, u "AIOOBE_FORMATTER"), (0, .class_ 132), (0, u "jdk/internal/util/Preconditions$3"), (3, u "IOOBE_FORMATTER"), (41, u "(IILjava/util/function/BiFunction;)I")] 15

def k26m0 : Method := { name := "<init>", desc := "()V", sig := { parameters := [], returnType := none }, accessFlags := 1, code := none }
def k26c1 : Code := { maxStack := 3, maxLocals := 3, code := jdk_41_method_11_code, exceptionTable := #[], attributes := #[] }
def k26m1 : Method := { name := "checkIndex", desc := "(IILjava/util/function/BiFunction;)I", sig := { parameters := [.int, .int, (.object "java/util/function/BiFunction")], returnType := some .int }, accessFlags := 9, code := some k26c1 }
/-- jdk/internal/util/Preconditions -/
def k26 : Class := { plain "jdk/internal/util/Preconditions" (some 0) with
  accessFlags := 33
  interfaces := #[]
  cf := some (fileOf pool26 24 #[.nestMembers #[55, 131, 125, 114]] #[{ accessFlags := 1, nameIndex := 5, descriptorIndex := 6, attributes := #[] }, { accessFlags := 9, nameIndex := 33, descriptorIndex := 178, attributes := #[] }] 33 2 #[] #[{ accessFlags := 25, nameIndex := 123, descriptorIndex := 124, attributes := #[] }, { accessFlags := 25, nameIndex := 130, descriptorIndex := 124, attributes := #[] }, { accessFlags := 25, nameIndex := 136, descriptorIndex := 124, attributes := #[] }])
  fields := #[{ name := "SIOOBE_FORMATTER", type := (.object "java/util/function/BiFunction"), accessFlags := 25, slot := 0, constantValue := 0 }, { name := "AIOOBE_FORMATTER", type := (.object "java/util/function/BiFunction"), accessFlags := 25, slot := 1, constantValue := 0 }, { name := "IOOBE_FORMATTER", type := (.object "java/util/function/BiFunction"), accessFlags := 25, slot := 2, constantValue := 0 }]
  methods := #[k26m0, k26m1]
  instanceTypes := #[]
  staticTypes := #[(.object "java/util/function/BiFunction"), (.object "java/util/function/BiFunction"), (.object "java/util/function/BiFunction")]
  resolved := Array.replicate 194 none
  statics := none }

def pool27 : Array CpInfo := pool [(3, .methodref 4 5), (0, .class_ 6), (0, .nameAndType 7 8), (0, u "java/lang/Object"), (0, u "<init>"), (0, u "()V"), (0, .methodref 10 11), (0, .class_ 12), (0, .nameAndType 13 14), (0, u "com/example/steady_sluice/steadysluice/RuleSet"), (0, u "largestCount"), (0, u "()I"), (0, .class_ 16), (0, u "com/example/steady_sluice/steadysluice/Scope"), (0, .methodref 18 19), (0, .class_ 20), (0, .nameAndType 21 22), (0, u "java/lang/Math"), (0, u "min"), (0, u "(II)I"), (0, .fieldref 15 24), (0, .nameAndType 25 26), (0, u "times"), (0, u "[J"), (0, .long 9223372036854775808), (1, .methodref 30 31), (0, .class_ 32), (0, .nameAndType 33 34), (0, u "java/util/Arrays"), (0, u "fill"), (0, u "([JJ)V"), (6, u "(I)I"), (3, u "(I)J"), (0, .methodref 15 47), (0, .nameAndType 48 41), (0, u "slot"), (4, .fieldref 15 54), (0, .nameAndType 55 56), (0, u "head"), (0, u "I"), (0, .methodref 10 58), (0, .nameAndType 59 45), (0, u "longestPeriodAbove"), (17, u "FIRST_CAPACITY"), (2, u "NEVER"), (0, u "J"), (0, u "(Lcom/example/steady_sluice/steadysluice/RuleSet;)V"), (5, u "admit"), (0, u "(Lcom/example/steady_sluice/steadysluice/RuleSet;J)V"), (0, u "newestAdmission"), (0, u "()J")] 2

def k27c0 : Code := { maxStack := 3, maxLocals := 2, code := prog_19_method_1_code, exceptionTable := #[], attributes := #[] }
def k27m0 : Method := { name := "<init>", desc := "(Lcom/example/steady_sluice/steadysluice/RuleSet;)V", sig := { parameters := [(.object "com/example/steady_sluice/steadysluice/RuleSet")], returnType := none }, accessFlags := 0, code := some k27c0 }
def k27c1 : Code := { maxStack := 6, maxLocals := 4, code := prog_19_method_3_code, exceptionTable := #[], attributes := #[] }
def k27m1 : Method := { name := "admit", desc := "(Lcom/example/steady_sluice/steadysluice/RuleSet;J)V", sig := { parameters := [(.object "com/example/steady_sluice/steadysluice/RuleSet"), .long], returnType := none }, accessFlags := 0, code := some k27c1 }
def k27c2 : Code := { maxStack := 4, maxLocals := 1, code := prog_19_method_4_code, exceptionTable := #[], attributes := #[] }
def k27m2 : Method := { name := "newestAdmission", desc := "()J", sig := { parameters := [], returnType := some .long }, accessFlags := 0, code := some k27c2 }
def k27c3 : Code := { maxStack := 2, maxLocals := 3, code := prog_19_method_5_code, exceptionTable := #[], attributes := #[] }
def k27m3 : Method := { name := "slot", desc := "(I)I", sig := { parameters := [.int], returnType := some .int }, accessFlags := 2, code := some k27c3 }
/-- com/example/steady_sluice/steadysluice/Scope -/
def k27 : Class := { plain "com/example/steady_sluice/steadysluice/Scope" (some 0) with
  accessFlags := 32
  interfaces := #[]
  cf := some (fileOf pool27 15 #[] #[{ accessFlags := 0, nameIndex := 7, descriptorIndex := 82, attributes := #[] }, { accessFlags := 0, nameIndex := 88, descriptorIndex := 89, attributes := #[] }, { accessFlags := 0, nameIndex := 90, descriptorIndex := 91, attributes := #[] }, { accessFlags := 2, nameIndex := 48, descriptorIndex := 41, attributes := #[] }] 32 4 #[] #[{ accessFlags := 26, nameIndex := 77, descriptorIndex := 56, attributes := #[] }, { accessFlags := 26, nameIndex := 80, descriptorIndex := 81, attributes := #[] }, { accessFlags := 2, nameIndex := 25, descriptorIndex := 26, attributes := #[] }, { accessFlags := 2, nameIndex := 55, descriptorIndex := 56, attributes := #[] }])
  fields := #[{ name := "FIRST_CAPACITY", type := .int, accessFlags := 26, slot := 0, constantValue := 0 }, { name := "NEVER", type := .long, accessFlags := 26, slot := 1, constantValue := 0 }, { name := "times", type := (.array .long), accessFlags := 2, slot := 0, constantValue := 0 }, { name := "head", type := .int, accessFlags := 2, slot := 1, constantValue := 0 }]
  methods := #[k27m0, k27m1, k27m2, k27m3]
  instanceTypes := #[(.array .long), .int]
  staticTypes := #[.int, .long]
  resolved := Array.replicate 94 none
  statics := none }

def pool28 : Array CpInfo := pool [(2, .class_ 4), (1, u "java/lang/Object"), (0, u "<init>"), (0, u "()V"), (7, .class_ 16), (1, u "java/util/Arrays"), (57, .class_ 76), (1, u "java/util/Arrays$NaturalOrder"), (36, .class_ 115), (1, u "java/util/Arrays$LegacyMergeSort"), (1, u "Z"), (257, .class_ 376), (0, u "java/util/Arrays$ArrayList"), (68, u "$assertionsDisabled"), (269, u "MIN_ARRAY_SORT_GRAN"), (0, u "I"), (2, u "INSERTIONSORT_THRESHOLD"), (120, u "fill"), (0, u "([JJ)V"), (133, .class_ 976), (0, u "java/util/Arrays$ArrayItr")] 52

def k28m0 : Method := { name := "<init>", desc := "()V", sig := { parameters := [], returnType := none }, accessFlags := 2, code := none }
def k28c1 : Code := { maxStack := 4, maxLocals := 5, code := jdk_65_method_101_code, exceptionTable := #[], attributes := #[] }
def k28m1 : Method := { name := "fill", desc := "([JJ)V", sig := { parameters := [(.array .long), .long], returnType := none }, accessFlags := 9, code := some k28c1 }
/-- java/util/Arrays -/
def k28 : Class := { plain "java/util/Arrays" (some 0) with
  accessFlags := 49
  interfaces := #[]
  cf := some (fileOf pool28 14 #[.nestMembers #[975, 375, 113, 74]] #[{ accessFlags := 2, nameIndex := 5, descriptorIndex := 6, attributes := #[] }, { accessFlags := 9, nameIndex := 840, descriptorIndex := 841, attributes := #[] }] 49 2 #[] #[{ accessFlags := 26, nameIndex := 715, descriptorIndex := 716, attributes := #[] }, { accessFlags := 26, nameIndex := 719, descriptorIndex := 716, attributes := #[] }, { accessFlags := 4120, nameIndex := 445, descriptorIndex := 117, attributes := #[] }])
  fields := #[{ name := "MIN_ARRAY_SORT_GRAN", type := .int, accessFlags := 26, slot := 0, constantValue := 0 }, { name := "INSERTIONSORT_THRESHOLD", type := .int, accessFlags := 26, slot := 1, constantValue := 0 }, { name := "$assertionsDisabled", type := .boolean, accessFlags := 4120, slot := 2, constantValue := 0 }]
  methods := #[k28m0, k28m1]
  instanceTypes := #[]
  staticTypes := #[.int, .int, .boolean]
  resolved := Array.replicate 1029 none
  statics := none }

/-- the primitive byte -/
def k29 : Class := { plain "byte" none with kind := .primitive 'B', accessFlags := 0x411 }
/-- [B -/
def k30 : Class := { plain "[B" (some 0) with kind := .array 29 .byte, interfaces := #[9, 10], accessFlags := 1041 }

/-- the primitive int -/
def k31 : Class := { plain "int" none with kind := .primitive 'I', accessFlags := 0x411 }
/-- [I -/
def k32 : Class := { plain "[I" (some 0) with kind := .array 31 .int, interfaces := #[9, 10], accessFlags := 1041 }

/-- the primitive long -/
def k33 : Class := { plain "long" none with kind := .primitive 'J', accessFlags := 0x411 }
/-- [J -/
def k34 : Class := { plain "[J" (some 0) with kind := .array 33 .long, interfaces := #[9, 10], accessFlags := 1041 }

/-- [Ljava/lang/Object; -/
def k35 : Class := { plain "[Ljava/lang/Object;" (some 0) with kind := .array 0 (.object "java/lang/Object"), interfaces := #[9, 10], accessFlags := 1041 }

def heap : Heap := #[{ cls := 11, slots := #[.long 0, .int 0, .ref 4, .ref 5], vm := .statics 11 },
  { cls := 13, slots := #[.ref 3], vm := .statics 13 },
  { cls := 16, slots := #[.ref 6, .long 0, .null], vm := .statics 16 },
  { cls := 16, slots := #[.long 9223372036, .int 0], vm := .none },
  { cls := 35, slots := #[], vm := .none },
  { cls := 35, slots := #[], vm := .none },
  { cls := 16, slots := #[.long 0, .int 0], vm := .none }]
def classes : Array Class := #[k0, k1, k2, k3, k4, k5, k6, k7, k8, k9, k10, k11, k12, k13, k14, k15, k16, k17, k18, k19, k20, k21, k22, k23, k24, k25, k26, k27, k28, k29, k30, k31, k32, k33, k34, k35]
def interned : List (Array UInt16 × Addr) := []
def slotsUsed : Nat := 12
def theMethod : MethodId := ⟨1, 1⟩
def args0 : Array Value := #[.int 1, .long 5, .long 3, .long 4, .long 7]
def aboutOver (below : List Frame) : State where
  vm := { classes := classes, interned := interned.toArray }
  heap := heap
  slotsUsed := slotsUsed
  threads := #[{ frames := .invoking theMethod args0 :: below }]
def below0 : List Frame := [.native { method := ⟨0, 0⟩, args := #[] }]
def about1 : State := aboutOver below0
def p0 : Program := .bare "" "" ""
def e0 : Env := launch0.env 0 0 0
theorem w_frames : about1.frames = Frame.invoking theMethod args0 :: below0 := rfl
set_option maxRecDepth 65536 in
theorem w_args : argsFit about1.vm theMethod args0 = true := by decide +kernel
set_option maxRecDepth 65536 in
theorem w_heap : heapFits about1 = true := by decide +kernel
set_option maxRecDepth 65536 in
theorem w_runnable : about1.curStatus? = some .runnable := by decide +kernel
set_option maxRecDepth 65536 in
theorem w_alone : about1.alone = true := by decide +kernel
set_option maxRecDepth 65536 in
theorem w_named : about1.methodNamed? x = some theMethod := by decide +kernel
set_option maxRecDepth 65536 in
theorem w_hears : about1.hears theMethod below0 = true := by decide +kernel
set_option maxRecDepth 65536 in
theorem w_ripe : about1.ripe theMethod args0 below0 = true := by decide +kernel
theorem w_running : about1.status = .running := rfl
set_option maxRecDepth 65536 in
theorem w_room : about1.hasRoom e0.platform room_1 = true :=
  launch0.hasRoom_least _ room_1 (by decide +kernel) (by decide +kernel) (by decide +kernel) (by decide +kernel) (by decide +kernel) (by decide +kernel)
theorem allAtoms_all (ts : List Jvm.Cond) (a : Array Jvm.Value) (st : Jvm.State) : (allAtoms ts).before a st = ts.all (fun c => c.before a st) := by
  induction ts with
  | nil => rfl
  | cons c t ih =>
    show (Jvm.Cond.and c (allAtoms t)).before a st = _
    rw [Jvm.Cond.before_and, ih, List.all_cons]
def words1 : List Jvm.Cond := Jvm.Cond.code x code maxLocals ret :: tables_1
/-- a 'code' word, met by the world's own term for the bytes: nothing is compared byte by byte -/
theorem code_word {y : MethodName} {bytes : ByteArray} {mx : Nat} {rt : Option FieldType} {a : Array Value} {s : State} {m : MethodId} {meth : Method} {c : Code} (h1 : s.methodNamed? y = some m) (h2 : s.vm.method? m = some meth) (h3 : meth.code = some c) (h4 : c.code = bytes)
    (h5 : (c.maxLocals == mx && c.exceptionTable.isEmpty && decide (c.maxStack ≤ mostOperands) && decide (meth.sig.returnType = rt) && !meth.locks && decide (parseMethodDescriptor y.desc = some meth.sig)) = true) : (Jvm.Cond.code y bytes mx rt).before a s = true := by
  simp only [Bool.and_eq_true, beq_iff_eq, Bool.not_eq_true', decide_eq_true_eq] at h5
  obtain ⟨⟨⟨⟨⟨g1, g2⟩, g3⟩, g4⟩, g5⟩, g6⟩ := h5
  simp [Cond.before, Cond.holds, Cond.value, h1, h2, h3, h4, g1, g2, g3, g4, g5, g6]
def isCode : Jvm.Cond → Bool
  | .code _ _ _ _ => true
  | _ => false
theorem all_split {L : List Jvm.Cond} {P : Jvm.Cond → Bool} (h1 : L.all (fun c => isCode c || P c) = true) (h2 : ∀ c ∈ L.filter isCode, P c = true) : L.all P = true := by
  refine List.all_eq_true.mpr fun c hc => ?_
  have h := List.all_eq_true.mp h1 c hc
  rcases Bool.eq_false_or_eq_true (isCode c) with hi | hi
  · exact h2 c (List.mem_filter.mpr ⟨hc, hi⟩)
  · simpa [hi] using h
set_option maxRecDepth 65536 in
theorem w_c0 : (Jvm.Cond.code x code maxLocals ret).before args0 about1 = true := code_word (m := ⟨1, 1⟩) (meth := k1m1) (c := k1c1) (by decide +kernel) rfl rfl rfl (by decide +kernel)
set_option maxRecDepth 65536 in
theorem w_c1 : (Jvm.Cond.code ({ cls := "java/util/ArrayList", name := "<init>", desc := "()V" } : Jvm.MethodName) jdk_38_method_2_code (1 : Nat) (Option.none : Option Jvm.ClassFile.FieldType)).before args0 about1 = true := code_word (m := ⟨11, 0⟩) (meth := k11m0) (c := k11c0) (by decide +kernel) rfl rfl rfl (by decide +kernel)
set_option maxRecDepth 65536 in
theorem w_c2 : (Jvm.Cond.code ({ cls := "java/util/AbstractList", name := "<init>", desc := "()V" } : Jvm.MethodName) jdk_39_method_1_code (1 : Nat) (Option.none : Option Jvm.ClassFile.FieldType)).before args0 about1 = true := code_word (m := ⟨7, 0⟩) (meth := k7m0) (c := k7c0) (by decide +kernel) rfl rfl rfl (by decide +kernel)
set_option maxRecDepth 65536 in
theorem w_c3 : (Jvm.Cond.code ({ cls := "java/util/AbstractCollection", name := "<init>", desc := "()V" } : Jvm.MethodName) jdk_22_method_1_code (1 : Nat) (Option.none : Option Jvm.ClassFile.FieldType)).before args0 about1 = true := code_word (m := ⟨4, 0⟩) (meth := k4m0) (c := k4c0) (by decide +kernel) rfl rfl rfl (by decide +kernel)
set_option maxRecDepth 65536 in
theorem w_c4 : (Jvm.Cond.code ({ cls := "java/lang/Object", name := "<init>", desc := "()V" } : Jvm.MethodName) object_method_1_code (1 : Nat) (Option.none : Option Jvm.ClassFile.FieldType)).before args0 about1 = true := code_word (m := ⟨0, 0⟩) (meth := k0m0) (c := k0c0) (by decide +kernel) rfl rfl rfl (by decide +kernel)
set_option maxRecDepth 65536 in
theorem w_c5 : (Jvm.Cond.code ({ cls := "java/time/Duration", name := "ofNanos", desc := "(J)Ljava/time/Duration;" } : Jvm.MethodName) jdk_2316_method_7_code (5 : Nat) (Option.some (Jvm.ClassFile.FieldType.object "java/time/Duration"))).before args0 about1 = true := code_word (m := ⟨16, 0⟩) (meth := k16m0) (c := k16c0) (by decide +kernel) rfl rfl rfl (by decide +kernel)
set_option maxRecDepth 65536 in
theorem w_c6 : (Jvm.Cond.code ({ cls := "java/time/Duration", name := "create", desc := "(JI)Ljava/time/Duration;" } : Jvm.MethodName) jdk_2316_method_16_code (3 : Nat) (Option.some (Jvm.ClassFile.FieldType.object "java/time/Duration"))).before args0 about1 = true := code_word (m := ⟨16, 1⟩) (meth := k16m1) (c := k16c1) (by decide +kernel) rfl rfl rfl (by decide +kernel)
set_option maxRecDepth 65536 in
theorem w_c7 : (Jvm.Cond.code ({ cls := "java/time/Duration", name := "<init>", desc := "(JI)V" } : Jvm.MethodName) jdk_2316_method_17_code (4 : Nat) (Option.none : Option Jvm.ClassFile.FieldType)).before args0 about1 = true := code_word (m := ⟨16, 2⟩) (meth := k16m2) (c := k16c2) (by decide +kernel) rfl rfl rfl (by decide +kernel)
set_option maxRecDepth 65536 in
theorem w_c8 : (Jvm.Cond.code ({ cls := "com/example/steady_sluice/steadysluice/Rule", name := "<init>", desc := "(ILjava/time/Duration;)V" } : Jvm.MethodName) prog_17_method_1_code (3 : Nat) (Option.none : Option Jvm.ClassFile.FieldType)).before args0 about1 = true := code_word (m := ⟨13, 0⟩) (meth := k13m0) (c := k13c0) (by decide +kernel) rfl rfl rfl (by decide +kernel)
set_option maxRecDepth 65536 in
theorem w_c9 : (Jvm.Cond.code ({ cls := "java/lang/Record", name := "<init>", desc := "()V" } : Jvm.MethodName) jdk_30_method_1_code (1 : Nat) (Option.none : Option Jvm.ClassFile.FieldType)).before args0 about1 = true := code_word (m := ⟨12, 0⟩) (meth := k12m0) (c := k12c0) (by decide +kernel) rfl rfl rfl (by decide +kernel)
set_option maxRecDepth 65536 in
theorem w_c10 : (Jvm.Cond.code ({ cls := "java/util/Objects", name := "requireNonNull", desc := "(Ljava/lang/Object;Ljava/lang/String;)Ljava/lang/Object;" } : Jvm.MethodName) jdk_31_method_11_code (2 : Nat) (Option.some (Jvm.ClassFile.FieldType.object "java/lang/Object"))).before args0 about1 = true := code_word (m := ⟨21, 1⟩) (meth := k21m1) (c := k21c1) (by decide +kernel) rfl rfl rfl (by decide +kernel)
set_option maxRecDepth 65536 in
theorem w_c11 : (Jvm.Cond.code ({ cls := "java/time/Duration", name := "compareTo", desc := "(Ljava/time/Duration;)I" } : Jvm.MethodName) jdk_2316_method_66_code (3 : Nat) (Option.some Jvm.ClassFile.FieldType.int)).before args0 about1 = true := code_word (m := ⟨16, 4⟩) (meth := k16m4) (c := k16c4) (by decide +kernel) rfl rfl rfl (by decide +kernel)
set_option maxRecDepth 65536 in
theorem w_c12 : (Jvm.Cond.code ({ cls := "java/lang/Long", name := "compare", desc := "(JJ)I" } : Jvm.MethodName) jdk_35_method_42_code (4 : Nat) (Option.some Jvm.ClassFile.FieldType.int)).before args0 about1 = true := code_word (m := ⟨23, 0⟩) (meth := k23m0) (c := k23c0) (by decide +kernel) rfl rfl rfl (by decide +kernel)
set_option maxRecDepth 65536 in
theorem w_c13 : (Jvm.Cond.code ({ cls := "java/util/ArrayList", name := "add", desc := "(Ljava/lang/Object;)Z" } : Jvm.MethodName) jdk_38_method_25_code (2 : Nat) (Option.some Jvm.ClassFile.FieldType.boolean)).before args0 about1 = true := code_word (m := ⟨11, 7⟩) (meth := k11m7) (c := k11c7) (by decide +kernel) rfl rfl rfl (by decide +kernel)
set_option maxRecDepth 65536 in
theorem w_c14 : (Jvm.Cond.code ({ cls := "java/util/ArrayList", name := "add", desc := "(Ljava/lang/Object;[Ljava/lang/Object;I)V" } : Jvm.MethodName) jdk_38_method_24_code (4 : Nat) (Option.none : Option Jvm.ClassFile.FieldType)).before args0 about1 = true := code_word (m := ⟨11, 6⟩) (meth := k11m6) (c := k11c6) (by decide +kernel) rfl rfl rfl (by decide +kernel)
set_option maxRecDepth 65536 in
theorem w_c15 : (Jvm.Cond.code ({ cls := "java/util/ArrayList", name := "grow", desc := "()[Ljava/lang/Object;" } : Jvm.MethodName) jdk_38_method_7_code (1 : Nat) (Option.some (Jvm.ClassFile.FieldType.array (Jvm.ClassFile.FieldType.object "java/lang/Object")))).before args0 about1 = true := code_word (m := ⟨11, 2⟩) (meth := k11m2) (c := k11c2) (by decide +kernel) rfl rfl rfl (by decide +kernel)
set_option maxRecDepth 65536 in
theorem w_c16 : (Jvm.Cond.code ({ cls := "java/util/ArrayList", name := "grow", desc := "(I)[Ljava/lang/Object;" } : Jvm.MethodName) jdk_38_method_6_code (4 : Nat) (Option.some (Jvm.ClassFile.FieldType.array (Jvm.ClassFile.FieldType.object "java/lang/Object")))).before args0 about1 = true := code_word (m := ⟨11, 1⟩) (meth := k11m1) (c := k11c1) (by decide +kernel) rfl rfl rfl (by decide +kernel)
set_option maxRecDepth 65536 in
theorem w_c17 : (Jvm.Cond.code ({ cls := "java/lang/Math", name := "max", desc := "(II)I" } : Jvm.MethodName) jdk_29_method_65_code (2 : Nat) (Option.some Jvm.ClassFile.FieldType.int)).before args0 about1 = true := code_word (m := ⟨24, 4⟩) (meth := k24m4) (c := k24c4) (by decide +kernel) rfl rfl rfl (by decide +kernel)
set_option maxRecDepth 65536 in
theorem w_c18 : (Jvm.Cond.code ({ cls := "com/example/steady_sluice/steadysluice/RuleSet", name := "<init>", desc := "(Ljava/util/List;)V" } : Jvm.MethodName) prog_18_method_1_code (7 : Nat) (Option.none : Option Jvm.ClassFile.FieldType)).before args0 about1 = true := code_word (m := ⟨25, 0⟩) (meth := k25m0) (c := k25c0) (by decide +kernel) rfl rfl rfl (by decide +kernel)
set_option maxRecDepth 65536 in
theorem w_c19 : (Jvm.Cond.code ({ cls := "java/util/ArrayList", name := "size", desc := "()I" } : Jvm.MethodName) jdk_38_method_8_code (1 : Nat) (Option.some Jvm.ClassFile.FieldType.int)).before args0 about1 = true := code_word (m := ⟨11, 3⟩) (meth := k11m3) (c := k11c3) (by decide +kernel) rfl rfl rfl (by decide +kernel)
set_option maxRecDepth 65536 in
theorem w_c20 : (Jvm.Cond.code ({ cls := "java/util/ArrayList", name := "get", desc := "(I)Ljava/lang/Object;" } : Jvm.MethodName) jdk_38_method_20_code (2 : Nat) (Option.some (Jvm.ClassFile.FieldType.object "java/lang/Object"))).before args0 about1 = true := code_word (m := ⟨11, 5⟩) (meth := k11m5) (c := k11c5) (by decide +kernel) rfl rfl rfl (by decide +kernel)
set_option maxRecDepth 65536 in
theorem w_c21 : (Jvm.Cond.code ({ cls := "java/util/Objects", name := "checkIndex", desc := "(II)I" } : Jvm.MethodName) jdk_31_method_17_code (2 : Nat) (Option.some Jvm.ClassFile.FieldType.int)).before args0 about1 = true := code_word (m := ⟨21, 2⟩) (meth := k21m2) (c := k21c2) (by decide +kernel) rfl rfl rfl (by decide +kernel)
set_option maxRecDepth 65536 in
theorem w_c22 : (Jvm.Cond.code ({ cls := "jdk/internal/util/Preconditions", name := "checkIndex", desc := "(IILjava/util/function/BiFunction;)I" } : Jvm.MethodName) jdk_41_method_11_code (3 : Nat) (Option.some Jvm.ClassFile.FieldType.int)).before args0 about1 = true := code_word (m := ⟨26, 1⟩) (meth := k26m1) (c := k26c1) (by decide +kernel) rfl rfl rfl (by decide +kernel)
set_option maxRecDepth 65536 in
theorem w_c23 : (Jvm.Cond.code ({ cls := "java/util/ArrayList", name := "elementData", desc := "(I)Ljava/lang/Object;" } : Jvm.MethodName) jdk_38_method_18_code (2 : Nat) (Option.some (Jvm.ClassFile.FieldType.object "java/lang/Object"))).before args0 about1 = true := code_word (m := ⟨11, 4⟩) (meth := k11m4) (c := k11c4) (by decide +kernel) rfl rfl rfl (by decide +kernel)
set_option maxRecDepth 65536 in
theorem w_c24 : (Jvm.Cond.code ({ cls := "com/example/steady_sluice/steadysluice/Rule", name := "count", desc := "()I" } : Jvm.MethodName) prog_17_method_5_code (1 : Nat) (Option.some Jvm.ClassFile.FieldType.int)).before args0 about1 = true := code_word (m := ⟨13, 1⟩) (meth := k13m1) (c := k13c1) (by decide +kernel) rfl rfl rfl (by decide +kernel)
set_option maxRecDepth 65536 in
theorem w_c25 : (Jvm.Cond.code ({ cls := "com/example/steady_sluice/steadysluice/Rule", name := "period", desc := "()Ljava/time/Duration;" } : Jvm.MethodName) prog_17_method_6_code (1 : Nat) (Option.some (Jvm.ClassFile.FieldType.object "java/time/Duration"))).before args0 about1 = true := code_word (m := ⟨13, 2⟩) (meth := k13m2) (c := k13c2) (by decide +kernel) rfl rfl rfl (by decide +kernel)
set_option maxRecDepth 65536 in
theorem w_c26 : (Jvm.Cond.code ({ cls := "java/time/Duration", name := "toNanos", desc := "()J" } : Jvm.MethodName) jdk_2316_method_58_code (7 : Nat) (Option.some Jvm.ClassFile.FieldType.long)).before args0 about1 = true := code_word (m := ⟨16, 3⟩) (meth := k16m3) (c := k16c3) (by decide +kernel) rfl rfl rfl (by decide +kernel)
set_option maxRecDepth 65536 in
theorem w_c27 : (Jvm.Cond.code ({ cls := "java/lang/Math", name := "multiplyExact", desc := "(JJ)J" } : Jvm.MethodName) jdk_29_method_30_code (10 : Nat) (Option.some Jvm.ClassFile.FieldType.long)).before args0 about1 = true := code_word (m := ⟨24, 2⟩) (meth := k24m2) (c := k24c2) (by decide +kernel) rfl rfl rfl (by decide +kernel)
set_option maxRecDepth 65536 in
theorem w_c28 : (Jvm.Cond.code ({ cls := "java/lang/Math", name := "abs", desc := "(J)J" } : Jvm.MethodName) jdk_29_method_61_code (2 : Nat) (Option.some Jvm.ClassFile.FieldType.long)).before args0 about1 = true := code_word (m := ⟨24, 3⟩) (meth := k24m3) (c := k24c3) (by decide +kernel) rfl rfl rfl (by decide +kernel)
set_option maxRecDepth 65536 in
theorem w_c29 : (Jvm.Cond.code ({ cls := "java/lang/Math", name := "addExact", desc := "(JJ)J" } : Jvm.MethodName) jdk_29_method_25_code (6 : Nat) (Option.some Jvm.ClassFile.FieldType.long)).before args0 about1 = true := code_word (m := ⟨24, 1⟩) (meth := k24m1) (c := k24c1) (by decide +kernel) rfl rfl rfl (by decide +kernel)
set_option maxRecDepth 65536 in
theorem w_c30 : (Jvm.Cond.code ({ cls := "java/lang/Math", name := "min", desc := "(II)I" } : Jvm.MethodName) jdk_29_method_69_code (2 : Nat) (Option.some Jvm.ClassFile.FieldType.int)).before args0 about1 = true := code_word (m := ⟨24, 6⟩) (meth := k24m6) (c := k24c6) (by decide +kernel) rfl rfl rfl (by decide +kernel)
set_option maxRecDepth 65536 in
theorem w_c31 : (Jvm.Cond.code ({ cls := "java/lang/Math", name := "max", desc := "(JJ)J" } : Jvm.MethodName) jdk_29_method_66_code (4 : Nat) (Option.some Jvm.ClassFile.FieldType.long)).before args0 about1 = true := code_word (m := ⟨24, 5⟩) (meth := k24m5) (c := k24c5) (by decide +kernel) rfl rfl rfl (by decide +kernel)
set_option maxRecDepth 65536 in
theorem w_c32 : (Jvm.Cond.code ({ cls := "com/example/steady_sluice/steadysluice/Scope", name := "<init>", desc := "(Lcom/example/steady_sluice/steadysluice/RuleSet;)V" } : Jvm.MethodName) prog_19_method_1_code (2 : Nat) (Option.none : Option Jvm.ClassFile.FieldType)).before args0 about1 = true := code_word (m := ⟨27, 0⟩) (meth := k27m0) (c := k27c0) (by decide +kernel) rfl rfl rfl (by decide +kernel)
set_option maxRecDepth 65536 in
theorem w_c33 : (Jvm.Cond.code ({ cls := "com/example/steady_sluice/steadysluice/RuleSet", name := "largestCount", desc := "()I" } : Jvm.MethodName) prog_18_method_6_code (1 : Nat) (Option.some Jvm.ClassFile.FieldType.int)).before args0 about1 = true := code_word (m := ⟨25, 1⟩) (meth := k25m1) (c := k25c1) (by decide +kernel) rfl rfl rfl (by decide +kernel)
set_option maxRecDepth 65536 in
theorem w_c34 : (Jvm.Cond.code ({ cls := "java/util/Arrays", name := "fill", desc := "([JJ)V" } : Jvm.MethodName) jdk_65_method_101_code (5 : Nat) (Option.none : Option Jvm.ClassFile.FieldType)).before args0 about1 = true := code_word (m := ⟨28, 1⟩) (meth := k28m1) (c := k28c1) (by decide +kernel) rfl rfl rfl (by decide +kernel)
set_option maxRecDepth 65536 in
theorem w_c35 : (Jvm.Cond.code ({ cls := "com/example/steady_sluice/steadysluice/Scope", name := "admit", desc := "(Lcom/example/steady_sluice/steadysluice/RuleSet;J)V" } : Jvm.MethodName) prog_19_method_3_code (4 : Nat) (Option.none : Option Jvm.ClassFile.FieldType)).before args0 about1 = true := code_word (m := ⟨27, 1⟩) (meth := k27m1) (c := k27c1) (by decide +kernel) rfl rfl rfl (by decide +kernel)
set_option maxRecDepth 65536 in
theorem w_c36 : (Jvm.Cond.code ({ cls := "com/example/steady_sluice/steadysluice/Scope", name := "slot", desc := "(I)I" } : Jvm.MethodName) prog_19_method_5_code (3 : Nat) (Option.some Jvm.ClassFile.FieldType.int)).before args0 about1 = true := code_word (m := ⟨27, 3⟩) (meth := k27m3) (c := k27c3) (by decide +kernel) rfl rfl rfl (by decide +kernel)
set_option maxRecDepth 65536 in
theorem w_c37 : (Jvm.Cond.code ({ cls := "com/example/steady_sluice/steadysluice/Scope", name := "newestAdmission", desc := "()J" } : Jvm.MethodName) prog_19_method_4_code (1 : Nat) (Option.some Jvm.ClassFile.FieldType.long)).before args0 about1 = true := code_word (m := ⟨27, 2⟩) (meth := k27m2) (c := k27c2) (by decide +kernel) rfl rfl rfl (by decide +kernel)
set_option maxRecDepth 65536 in
theorem w_c38 : (Jvm.Cond.code ({ cls := "com/example/steady_sluice/steadysluice/RuleSet", name := "longestPeriodAbove", desc := "(I)J" } : Jvm.MethodName) prog_18_method_7_code (5 : Nat) (Option.some Jvm.ClassFile.FieldType.long)).before args0 about1 = true := code_word (m := ⟨25, 2⟩) (meth := k25m2) (c := k25c2) (by decide +kernel) rfl rfl rfl (by decide +kernel)
def codes1 : List Jvm.Cond := [Jvm.Cond.code x code maxLocals ret, Jvm.Cond.code ({ cls := "java/util/ArrayList", name := "<init>", desc := "()V" } : Jvm.MethodName) jdk_38_method_2_code (1 : Nat) (Option.none : Option Jvm.ClassFile.FieldType), Jvm.Cond.code ({ cls := "java/util/AbstractList", name := "<init>", desc := "()V" } : Jvm.MethodName) jdk_39_method_1_code (1 : Nat) (Option.none : Option Jvm.ClassFile.FieldType), Jvm.Cond.code ({ cls := "java/util/AbstractCollection", name := "<init>", desc := "()V" } : Jvm.MethodName) jdk_22_method_1_code (1 : Nat) (Option.none : Option Jvm.ClassFile.FieldType), Jvm.Cond.code ({ cls := "java/lang/Object", name := "<init>", desc := "()V" } : Jvm.MethodName) object_method_1_code (1 : Nat) (Option.none : Option Jvm.ClassFile.FieldType), Jvm.Cond.code ({ cls := "java/time/Duration", name := "ofNanos", desc := "(J)Ljava/time/Duration;" } : Jvm.MethodName) jdk_2316_method_7_code (5 : Nat) (Option.some (Jvm.ClassFile.FieldType.object "java/time/Duration")), Jvm.Cond.code ({ cls := "java/time/Duration", name := "create", desc := "(JI)Ljava/time/Duration;" } : Jvm.MethodName) jdk_2316_method_16_code (3 : Nat) (Option.some (Jvm.ClassFile.FieldType.object "java/time/Duration")), Jvm.Cond.code ({ cls := "java/time/Duration", name := "<init>", desc := "(JI)V" } : Jvm.MethodName) jdk_2316_method_17_code (4 : Nat) (Option.none : Option Jvm.ClassFile.FieldType), Jvm.Cond.code ({ cls := "com/example/steady_sluice/steadysluice/Rule", name := "<init>", desc := "(ILjava/time/Duration;)V" } : Jvm.MethodName) prog_17_method_1_code (3 : Nat) (Option.none : Option Jvm.ClassFile.FieldType), Jvm.Cond.code ({ cls := "java/lang/Record", name := "<init>", desc := "()V" } : Jvm.MethodName) jdk_30_method_1_code (1 : Nat) (Option.none : Option Jvm.ClassFile.FieldType), Jvm.Cond.code ({ cls := "java/util/Objects", name := "requireNonNull", desc := "(Ljava/lang/Object;Ljava/lang/String;)Ljava/lang/Object;" } : Jvm.MethodName) jdk_31_method_11_code (2 : Nat) (Option.some (Jvm.ClassFile.FieldType.object "java/lang/Object")), Jvm.Cond.code ({ cls := "java/time/Duration", name := "compareTo", desc := "(Ljava/time/Duration;)I" } : Jvm.MethodName) jdk_2316_method_66_code (3 : Nat) (Option.some Jvm.ClassFile.FieldType.int), Jvm.Cond.code ({ cls := "java/lang/Long", name := "compare", desc := "(JJ)I" } : Jvm.MethodName) jdk_35_method_42_code (4 : Nat) (Option.some Jvm.ClassFile.FieldType.int), Jvm.Cond.code ({ cls := "java/util/ArrayList", name := "add", desc := "(Ljava/lang/Object;)Z" } : Jvm.MethodName) jdk_38_method_25_code (2 : Nat) (Option.some Jvm.ClassFile.FieldType.boolean), Jvm.Cond.code ({ cls := "java/util/ArrayList", name := "add", desc := "(Ljava/lang/Object;[Ljava/lang/Object;I)V" } : Jvm.MethodName) jdk_38_method_24_code (4 : Nat) (Option.none : Option Jvm.ClassFile.FieldType), Jvm.Cond.code ({ cls := "java/util/ArrayList", name := "grow", desc := "()[Ljava/lang/Object;" } : Jvm.MethodName) jdk_38_method_7_code (1 : Nat) (Option.some (Jvm.ClassFile.FieldType.array (Jvm.ClassFile.FieldType.object "java/lang/Object"))), Jvm.Cond.code ({ cls := "java/util/ArrayList", name := "grow", desc := "(I)[Ljava/lang/Object;" } : Jvm.MethodName) jdk_38_method_6_code (4 : Nat) (Option.some (Jvm.ClassFile.FieldType.array (Jvm.ClassFile.FieldType.object "java/lang/Object"))), Jvm.Cond.code ({ cls := "java/lang/Math", name := "max", desc := "(II)I" } : Jvm.MethodName) jdk_29_method_65_code (2 : Nat) (Option.some Jvm.ClassFile.FieldType.int), Jvm.Cond.code ({ cls := "com/example/steady_sluice/steadysluice/RuleSet", name := "<init>", desc := "(Ljava/util/List;)V" } : Jvm.MethodName) prog_18_method_1_code (7 : Nat) (Option.none : Option Jvm.ClassFile.FieldType), Jvm.Cond.code ({ cls := "java/util/ArrayList", name := "size", desc := "()I" } : Jvm.MethodName) jdk_38_method_8_code (1 : Nat) (Option.some Jvm.ClassFile.FieldType.int), Jvm.Cond.code ({ cls := "java/util/ArrayList", name := "get", desc := "(I)Ljava/lang/Object;" } : Jvm.MethodName) jdk_38_method_20_code (2 : Nat) (Option.some (Jvm.ClassFile.FieldType.object "java/lang/Object")), Jvm.Cond.code ({ cls := "java/util/Objects", name := "checkIndex", desc := "(II)I" } : Jvm.MethodName) jdk_31_method_17_code (2 : Nat) (Option.some Jvm.ClassFile.FieldType.int), Jvm.Cond.code ({ cls := "jdk/internal/util/Preconditions", name := "checkIndex", desc := "(IILjava/util/function/BiFunction;)I" } : Jvm.MethodName) jdk_41_method_11_code (3 : Nat) (Option.some Jvm.ClassFile.FieldType.int), Jvm.Cond.code ({ cls := "java/util/ArrayList", name := "elementData", desc := "(I)Ljava/lang/Object;" } : Jvm.MethodName) jdk_38_method_18_code (2 : Nat) (Option.some (Jvm.ClassFile.FieldType.object "java/lang/Object")), Jvm.Cond.code ({ cls := "com/example/steady_sluice/steadysluice/Rule", name := "count", desc := "()I" } : Jvm.MethodName) prog_17_method_5_code (1 : Nat) (Option.some Jvm.ClassFile.FieldType.int), Jvm.Cond.code ({ cls := "com/example/steady_sluice/steadysluice/Rule", name := "period", desc := "()Ljava/time/Duration;" } : Jvm.MethodName) prog_17_method_6_code (1 : Nat) (Option.some (Jvm.ClassFile.FieldType.object "java/time/Duration")), Jvm.Cond.code ({ cls := "java/time/Duration", name := "toNanos", desc := "()J" } : Jvm.MethodName) jdk_2316_method_58_code (7 : Nat) (Option.some Jvm.ClassFile.FieldType.long), Jvm.Cond.code ({ cls := "java/lang/Math", name := "multiplyExact", desc := "(JJ)J" } : Jvm.MethodName) jdk_29_method_30_code (10 : Nat) (Option.some Jvm.ClassFile.FieldType.long), Jvm.Cond.code ({ cls := "java/lang/Math", name := "abs", desc := "(J)J" } : Jvm.MethodName) jdk_29_method_61_code (2 : Nat) (Option.some Jvm.ClassFile.FieldType.long), Jvm.Cond.code ({ cls := "java/lang/Math", name := "addExact", desc := "(JJ)J" } : Jvm.MethodName) jdk_29_method_25_code (6 : Nat) (Option.some Jvm.ClassFile.FieldType.long), Jvm.Cond.code ({ cls := "java/lang/Math", name := "min", desc := "(II)I" } : Jvm.MethodName) jdk_29_method_69_code (2 : Nat) (Option.some Jvm.ClassFile.FieldType.int), Jvm.Cond.code ({ cls := "java/lang/Math", name := "max", desc := "(JJ)J" } : Jvm.MethodName) jdk_29_method_66_code (4 : Nat) (Option.some Jvm.ClassFile.FieldType.long), Jvm.Cond.code ({ cls := "com/example/steady_sluice/steadysluice/Scope", name := "<init>", desc := "(Lcom/example/steady_sluice/steadysluice/RuleSet;)V" } : Jvm.MethodName) prog_19_method_1_code (2 : Nat) (Option.none : Option Jvm.ClassFile.FieldType), Jvm.Cond.code ({ cls := "com/example/steady_sluice/steadysluice/RuleSet", name := "largestCount", desc := "()I" } : Jvm.MethodName) prog_18_method_6_code (1 : Nat) (Option.some Jvm.ClassFile.FieldType.int), Jvm.Cond.code ({ cls := "java/util/Arrays", name := "fill", desc := "([JJ)V" } : Jvm.MethodName) jdk_65_method_101_code (5 : Nat) (Option.none : Option Jvm.ClassFile.FieldType), Jvm.Cond.code ({ cls := "com/example/steady_sluice/steadysluice/Scope", name := "admit", desc := "(Lcom/example/steady_sluice/steadysluice/RuleSet;J)V" } : Jvm.MethodName) prog_19_method_3_code (4 : Nat) (Option.none : Option Jvm.ClassFile.FieldType), Jvm.Cond.code ({ cls := "com/example/steady_sluice/steadysluice/Scope", name := "slot", desc := "(I)I" } : Jvm.MethodName) prog_19_method_5_code (3 : Nat) (Option.some Jvm.ClassFile.FieldType.int), Jvm.Cond.code ({ cls := "com/example/steady_sluice/steadysluice/Scope", name := "newestAdmission", desc := "()J" } : Jvm.MethodName) prog_19_method_4_code (1 : Nat) (Option.some Jvm.ClassFile.FieldType.long), Jvm.Cond.code ({ cls := "com/example/steady_sluice/steadysluice/RuleSet", name := "longestPeriodAbove", desc := "(I)J" } : Jvm.MethodName) prog_18_method_7_code (5 : Nat) (Option.some Jvm.ClassFile.FieldType.long)]
set_option maxRecDepth 65536 in
theorem codes_eq : words1.filter isCode = codes1 := rfl
theorem w_codes : ∀ c ∈ words1.filter isCode, c.before args0 about1 = true := by
  rw [codes_eq]
  intro c hc
  simp only [codes1, List.mem_cons, List.not_mem_nil, or_false] at hc
  rcases hc with rfl | rfl | rfl | rfl | rfl | rfl | rfl | rfl | rfl | rfl | rfl | rfl | rfl | rfl | rfl | rfl | rfl | rfl | rfl | rfl | rfl | rfl | rfl | rfl | rfl | rfl | rfl | rfl | rfl | rfl | rfl | rfl | rfl | rfl | rfl | rfl | rfl | rfl | rfl
  · exact w_c0
  · exact w_c1
  · exact w_c2
  · exact w_c3
  · exact w_c4
  · exact w_c5
  · exact w_c6
  · exact w_c7
  · exact w_c8
  · exact w_c9
  · exact w_c10
  · exact w_c11
  · exact w_c12
  · exact w_c13
  · exact w_c14
  · exact w_c15
  · exact w_c16
  · exact w_c17
  · exact w_c18
  · exact w_c19
  · exact w_c20
  · exact w_c21
  · exact w_c22
  · exact w_c23
  · exact w_c24
  · exact w_c25
  · exact w_c26
  · exact w_c27
  · exact w_c28
  · exact w_c29
  · exact w_c30
  · exact w_c31
  · exact w_c32
  · exact w_c33
  · exact w_c34
  · exact w_c35
  · exact w_c36
  · exact w_c37
  · exact w_c38
set_option maxRecDepth 65536 in
theorem w_t1 : (words1.take 24).all (fun c => isCode c || c.before args0 about1) = true := by decide +kernel
set_option maxRecDepth 65536 in
theorem w_t2 : ((words1.drop 24).take 24).all (fun c => isCode c || c.before args0 about1) = true := by decide +kernel
set_option maxRecDepth 65536 in
theorem w_t3 : (((words1.drop 24).drop 24).take 24).all (fun c => isCode c || c.before args0 about1) = true := by decide +kernel
set_option maxRecDepth 65536 in
theorem w_t4 : ((((words1.drop 24).drop 24).drop 24).take 24).all (fun c => isCode c || c.before args0 about1) = true := by decide +kernel
set_option maxRecDepth 65536 in
theorem w_t5 : (((((words1.drop 24).drop 24).drop 24).drop 24).take 24).all (fun c => isCode c || c.before args0 about1) = true := by decide +kernel
set_option maxRecDepth 65536 in
theorem w_t6 : ((((((words1.drop 24).drop 24).drop 24).drop 24).drop 24).take 24).all (fun c => isCode c || c.before args0 about1) = true := by decide +kernel
set_option maxRecDepth 65536 in
theorem w_t7 : (((((((words1.drop 24).drop 24).drop 24).drop 24).drop 24).drop 24).take 24).all (fun c => isCode c || c.before args0 about1) = true := by decide +kernel
set_option maxRecDepth 65536 in
theorem w_t8 : ((((((((words1.drop 24).drop 24).drop 24).drop 24).drop 24).drop 24).drop 24).take 24).all (fun c => isCode c || c.before args0 about1) = true := by decide +kernel
set_option maxRecDepth 65536 in
theorem w_t9 : (((((((((words1.drop 24).drop 24).drop 24).drop 24).drop 24).drop 24).drop 24).drop 24).take 24).all (fun c => isCode c || c.before args0 about1) = true := by decide +kernel
set_option maxRecDepth 65536 in
theorem w_t10 : ((((((((((words1.drop 24).drop 24).drop 24).drop 24).drop 24).drop 24).drop 24).drop 24).drop 24).take 24).all (fun c => isCode c || c.before args0 about1) = true := by decide +kernel
set_option maxRecDepth 65536 in
theorem w_t11 : ((((((((((words1.drop 24).drop 24).drop 24).drop 24).drop 24).drop 24).drop 24).drop 24).drop 24).drop 24).all (fun c => isCode c || c.before args0 about1) = true := by decide +kernel
theorem w_tables : (allAtoms (Jvm.Cond.code x code maxLocals ret :: tables_1)).before args0 about1 = true := by
  rw [allAtoms_all]
  show words1.all (fun c => c.before args0 about1) = true
  refine all_split ?_ w_codes
  rw [← List.take_append_drop 24 words1, List.all_append, w_t1, ← List.take_append_drop 24 (words1.drop 24), List.all_append, w_t2, ← List.take_append_drop 24 ((words1.drop 24).drop 24), List.all_append, w_t3, ← List.take_append_drop 24 (((words1.drop 24).drop 24).drop 24), List.all_append, w_t4, ← List.take_append_drop 24 ((((words1.drop 24).drop 24).drop 24).drop 24), List.all_append, w_t5, ← List.take_append_drop 24 (((((words1.drop 24).drop 24).drop 24).drop 24).drop 24), List.all_append, w_t6, ← List.take_append_drop 24 ((((((words1.drop 24).drop 24).drop 24).drop 24).drop 24).drop 24), List.all_append, w_t7, ← List.take_append_drop 24 (((((((words1.drop 24).drop 24).drop 24).drop 24).drop 24).drop 24).drop 24), List.all_append, w_t8, ← List.take_append_drop 24 ((((((((words1.drop 24).drop 24).drop 24).drop 24).drop 24).drop 24).drop 24).drop 24), List.all_append, w_t9, ← List.take_append_drop 24 (((((((((words1.drop 24).drop 24).drop 24).drop 24).drop 24).drop 24).drop 24).drop 24).drop 24), List.all_append, w_t10, w_t11]
  rfl
set_option maxRecDepth 65536 in
theorem w_rest : rest_1_c.before args0 about1 = true := by decide +kernel
set_option maxRecDepth 65536 in
theorem w_case : (Jvm.Cond.and given_1 narrow_1).before args0 about1 = true := by decide +kernel
theorem w_applies : (headSpec (Jvm.Cond.code x code maxLocals ret :: tables_1) room_1).applies x e0.platform about1 = true :=
  (Spec.applies_iff w_frames).mpr ⟨w_running, w_runnable, w_alone, w_named, w_hears, w_ripe, w_room, w_tables⟩
theorem atStart : AtStart classFile x code maxLocals ret World_1 tables_1 room_1 Calls_1 rest_1 Pre_1 launch0 p0 e0 about1 theMethod args0 below0 :=
  ⟨lists_1, trivial, launch0.admits_env _ _ _, launch0.least_env, fairChoices_fair.cas, fairChoices_fair.clock, w_frames, w_args, w_heap, w_applies, trivial, w_rest, w_case⟩
end start1
theorem witness_1 : WitnessClaimed_1 := ⟨start1.p0, start1.e0, start1.about1, start1.theMethod, start1.args0, start1.below0, start1.atStart⟩
end Jvm.Pilot.@@N@@
