import JvmDerived
import JvmDerived.Pilot.@@N@@Statement
import JvmDerived.Pilot.@@N@@Code
set_option linter.unusedVariables false
set_option linter.unusedSimpArgs false
namespace Jvm.RoadKit
open Sem ClassFile Op Lib Jvm.Stand Jvm.Free Jvm.LawKit
section New
variable {p : Program} {l : Launch} {e : Env} {R : Room} {s : State} {m : MethodId} {args : Array Value} {below : List Frame} {meth : Method} {c : Code} {T : State} {locs : List Loc} {cells slots : Nat}
theorem retI (X : Stand p l e R s m args below meth c T locs cells slots) (hx : p.tables.exec = Jvm.exec) {pc : Nat} {Ls : Array Slot} {z : Int32} {rest : List Value} (hret : meth.sig.returnType = some .int) (hd : decode c.code pc = .ok (.ireturn, 1)) {fs : List Frame}
    (hl : ∀ (f : JFrame) (acts : List Action), f.method = m → f.locked = none → f.entered = [] → (doReturn e (T.setTop f) acts (some (.int z))).1 = T.setFrames fs) : Steps p.tables e below (T.setTop (mkF m pc Ls (.int z :: rest))) (T.setFrames fs) := by
  have hm' : T.vm.method? m = some meth := X.method'
  have hn : narrow .int (.int z) = .int z := rfl
  show Steps p.tables e below (T.setTop { method := m, pc := pc, locals := Ls, stack := _ :: rest, locked := none }) _
  jvm_step X.here [X.here.top, hx, hd, hm', hret, hn]
  first | (intro acts; rw [hl _ acts rfl rfl rfl]) | rw [hl _ _ rfl rfl rfl]
  exact Steps.refl _
end New
end Jvm.RoadKit
namespace Jvm.Pilot.@@N@@
open Jvm Jvm.ClassFile Sem Op Lib Jvm.Free Jvm.Stand Jvm.LawKit Jvm.RoadKit Bundle Jvm.Pilot.@@N@@.Jvm.D
theorem ow {a0 : Array Value} {Z : State} (hw : ∀ d ∈ tables_1, d.before a0 Z = true) (i : Nat) {d : Jvm.Cond} (h : tables_1[i]? = some d) : d.before a0 Z = true := hw _ (List.mem_of_getElem? h)
abbrev rr0 : Room := { frames := 0, cells := 0, slots := 0, locals := 0 }
/-- a body that writes nothing and makes nothing: it returns r, the heap as it was -/
def QP (r : Option Value) (h0 : Heap) (n0 : Nat) (v : Option Value) (h : Heap) (L : List Loc) : Prop := v = r ∧ Fr n0 L ∧ h = h0
theorem own_fldI {Z : State} {args : Array Value} {t : Term} {C n d : String} {a : Addr} {k : Int32} (ev : t.eval args Z none [] Z = some (.ref a)) (h : (Jvm.Cond.eq (Term.field t C n d) (Term.int k)).value args Z none Z [] = some true) : Fld Z Z.heap a C n d (.int k) := by
  obtain ⟨x, y, e1, e2, k1, k2⟩ := cmp_v (Or.inl h)
  rw [Term.int_eval] at e2
  cases e2
  obtain ⟨z, rfl⟩ := k2
  have e3 : z = k := by simpa [Cond.value, e1, Term.int_eval] using h
  subst e3
  exact Fld.start ((fld_at ev).symm.trans e1)
theorem own_ne {Z : State} {h : Heap} {a b : Addr} {C n d : String} {v w : Value} (F : Fld Z h a C n d v) (G : Fld Z h b C n d w) (hn : v ≠ w) : ¬ (a = b) := by
  rintro rfl
  obtain ⟨c1, _, _, _, f1, h1, h2, -, -, -, -, h7⟩ := F
  obtain ⟨c2, _, _, _, f2, g1, g2, -, -, -, -, g7⟩ := G
  cases h1.symm.trans g1
  cases h2.symm.trans g2
  exact hn (Option.some.inj (h7.symm.trans g7))
theorem own_mod17 (p : Int32) : (p &&& 2147483647) % 17 = 0 ∨ (p &&& 2147483647) % 17 = 1 ∨ (p &&& 2147483647) % 17 = 2 ∨ (p &&& 2147483647) % 17 = 3 ∨ (p &&& 2147483647) % 17 = 4 ∨ (p &&& 2147483647) % 17 = 5 ∨ (p &&& 2147483647) % 17 = 6 ∨ (p &&& 2147483647) % 17 = 7 ∨ (p &&& 2147483647) % 17 = 8 ∨ (p &&& 2147483647) % 17 = 9 ∨ (p &&& 2147483647) % 17 = 10 ∨ (p &&& 2147483647) % 17 = 11 ∨ (p &&& 2147483647) % 17 = 12 ∨ (p &&& 2147483647) % 17 = 13 ∨ (p &&& 2147483647) % 17 = 14 ∨ (p &&& 2147483647) % 17 = 15 ∨ (p &&& 2147483647) % 17 = 16 := by
  have h := c_mask p 2147483647 31 (by decide) (by decide)
  have h2 := (c_irem (p &&& 2147483647) 17 17 (by decide)).1 (by rw [h]; omega)
  have h3 : ((p &&& 2147483647) % 17).toInt = 0 ∨ ((p &&& 2147483647) % 17).toInt = 1 ∨ ((p &&& 2147483647) % 17).toInt = 2 ∨ ((p &&& 2147483647) % 17).toInt = 3 ∨ ((p &&& 2147483647) % 17).toInt = 4 ∨ ((p &&& 2147483647) % 17).toInt = 5 ∨ ((p &&& 2147483647) % 17).toInt = 6 ∨ ((p &&& 2147483647) % 17).toInt = 7 ∨ ((p &&& 2147483647) % 17).toInt = 8 ∨ ((p &&& 2147483647) % 17).toInt = 9 ∨ ((p &&& 2147483647) % 17).toInt = 10 ∨ ((p &&& 2147483647) % 17).toInt = 11 ∨ ((p &&& 2147483647) % 17).toInt = 12 ∨ ((p &&& 2147483647) % 17).toInt = 13 ∨ ((p &&& 2147483647) % 17).toInt = 14 ∨ ((p &&& 2147483647) % 17).toInt = 15 ∨ ((p &&& 2147483647) % 17).toInt = 16 := by omega
  rcases h3 with q | q | q | q | q | q | q | q | q | q | q | q | q | q | q | q | q
  · exact Or.inl (Int32.toInt_inj.mp q)
  · exact Or.inr (Or.inl (Int32.toInt_inj.mp q))
  · exact Or.inr (Or.inr (Or.inl (Int32.toInt_inj.mp q)))
  · exact Or.inr (Or.inr (Or.inr (Or.inl (Int32.toInt_inj.mp q))))
  · exact Or.inr (Or.inr (Or.inr (Or.inr (Or.inl (Int32.toInt_inj.mp q)))))
  · exact Or.inr (Or.inr (Or.inr (Or.inr (Or.inr (Or.inl (Int32.toInt_inj.mp q))))))
  · exact Or.inr (Or.inr (Or.inr (Or.inr (Or.inr (Or.inr (Or.inl (Int32.toInt_inj.mp q)))))))
  · exact Or.inr (Or.inr (Or.inr (Or.inr (Or.inr (Or.inr (Or.inr (Or.inl (Int32.toInt_inj.mp q))))))))
  · exact Or.inr (Or.inr (Or.inr (Or.inr (Or.inr (Or.inr (Or.inr (Or.inr (Or.inl (Int32.toInt_inj.mp q)))))))))
  · exact Or.inr (Or.inr (Or.inr (Or.inr (Or.inr (Or.inr (Or.inr (Or.inr (Or.inr (Or.inl (Int32.toInt_inj.mp q))))))))))
  · exact Or.inr (Or.inr (Or.inr (Or.inr (Or.inr (Or.inr (Or.inr (Or.inr (Or.inr (Or.inr (Or.inl (Int32.toInt_inj.mp q)))))))))))
  · exact Or.inr (Or.inr (Or.inr (Or.inr (Or.inr (Or.inr (Or.inr (Or.inr (Or.inr (Or.inr (Or.inr (Or.inl (Int32.toInt_inj.mp q))))))))))))
  · exact Or.inr (Or.inr (Or.inr (Or.inr (Or.inr (Or.inr (Or.inr (Or.inr (Or.inr (Or.inr (Or.inr (Or.inr (Or.inl (Int32.toInt_inj.mp q)))))))))))))
  · exact Or.inr (Or.inr (Or.inr (Or.inr (Or.inr (Or.inr (Or.inr (Or.inr (Or.inr (Or.inr (Or.inr (Or.inr (Or.inr (Or.inl (Int32.toInt_inj.mp q))))))))))))))
  · exact Or.inr (Or.inr (Or.inr (Or.inr (Or.inr (Or.inr (Or.inr (Or.inr (Or.inr (Or.inr (Or.inr (Or.inr (Or.inr (Or.inr (Or.inl (Int32.toInt_inj.mp q)))))))))))))))
  · exact Or.inr (Or.inr (Or.inr (Or.inr (Or.inr (Or.inr (Or.inr (Or.inr (Or.inr (Or.inr (Or.inr (Or.inr (Or.inr (Or.inr (Or.inr (Or.inl (Int32.toInt_inj.mp q))))))))))))))))
  · exact Or.inr (Or.inr (Or.inr (Or.inr (Or.inr (Or.inr (Or.inr (Or.inr (Or.inr (Or.inr (Or.inr (Or.inr (Or.inr (Or.inr (Or.inr (Or.inr (Int32.toInt_inj.mp q))))))))))))))))
def QF (r : Option Value) (h0 : Heap) (n0 : Nat) (v : Option Value) (h : Heap) (L : List Loc) : Prop := v = r ∧ Fr n0 L
theorem own_in17 : ∀ k : Nat, k < 17 → ¬ (Int32.ofNat k < 0) ∧ Int32.ofNat k < 17 ∧ (Int32.ofNat k).toNatClampNeg = k := by decide
theorem d1_0 : decode prog_79_method_26_code 0 = .ok (.aload_n 0, 1) := by decide +kernel
theorem d1_1 : decode prog_79_method_26_code 1 = .ok (.getstatic 16, 3) := by decide +kernel
theorem d1_4 : decode prog_79_method_26_code 4 = .ok (.if_acmp .eq 17, 3) := by decide +kernel
theorem d1_21 : decode prog_79_method_26_code 21 = .ok (.iconst 1, 1) := by decide +kernel
theorem d1_22 : decode prog_79_method_26_code 22 = .ok (.goto 4, 3) := by decide +kernel
theorem d1_26 : decode prog_79_method_26_code 26 = .ok (.ireturn, 1) := by decide +kernel
theorem pn_com_example_authzlint_authzlint_model_DataType : plainName "com/example/authzlint/authzlint/model/DataType" = true := by first | (simp [plainName, overriddenIn]; done) | decide +kernel
theorem ef_1 (m : MethodId) (x0 : Addr) : entryFrame m #[(.ref x0)] 1 = mkF m 0 #[.val (.ref x0)] [] := by first | (simp [entryFrame, mkF, argsToLocals, Value.category]; done) | rfl
abbrev nm_1 : MethodName := ⟨"com/example/authzlint/authzlint/model/DataType", "hasTimeZones", "()Z"⟩
set_option maxRecDepth 65536 in
set_option maxHeartbeats 40000000 in
theorem rm1_t (l : Launch) (Z : State) (a0 : Array Value) (hw : ∀ d ∈ tables_1, d.before a0 Z = true) (ws : List Jvm.Cond) (a1 : Addr) (w0 : Addr) (w1 : Addr) (w2 : Addr) (h0 : Heap) (n0 : Nat) (Z0 : n0 ≤ h0.size) (S0 : Sta Z h0 "com/example/authzlint/authzlint/model/DataType" "TIME" "Lcom/example/authzlint/authzlint/model/DataType;" (.ref w0)) (S1 : Sta Z h0 "com/example/authzlint/authzlint/model/DataType" "DATE" "Lcom/example/authzlint/authzlint/model/DataType;" (.ref w1)) (S2 : Sta Z h0 "com/example/authzlint/authzlint/model/DataType" "DATE_TIME" "Lcom/example/authzlint/authzlint/model/DataType;" (.ref w2)) (ha4 : a1 = w0) :
    MetFree l nm_1 (head1 (Jvm.Cond.code nm_1 prog_79_method_26_code 1 (some .boolean) :: ws) rr0) (fun aa U => aa = #[(.ref a1)] ∧ Z.Warmed39 U.vm ∧ U.heap = h0) (fun _ _ _ _ _ => True) (fun _ U o U' => ∃ v L, o = .returned v ∧ QP (some (.int (1 : Int32))) h0 n0 v U'.heap L ∧ FrameEnd U o U' L rr0.cells rr0.slots) := by
  refine MetFree.of_bodySF (plainFor_of_name pn_com_example_authzlint_authzlint_model_DataType) hisR ?_
  intro p e s m args below meth c s₁ Bd hml0 hP hK
  obtain ⟨rfl, hZ, hh⟩ := hP
  have hx := Bd.exec
  have hby := Bd.bytes
  have hml : c.maxLocals = 1 := hml0
  have hown : s.vm.findClass "com/example/authzlint/authzlint/model/DataType" = some m.cls := findClass_of_methodNamed Bd.named
  have hnm := (name_of_methodNamed Bd.named Bd.method).1
  have X0 : Stand p l e rr0 s m #[(.ref a1)] below meth c s₁ [] 0 0 := Stand.of_body Bd
  have e0 : s₁.heap = h0 := by rw [← hh, Bd.state]; rfl
  have N0 := Fr.nil n0
  have pre0 : ∀ t, Steps p.tables e below (s₁.setTop (mkF m 0 #[.val (.ref a1)] [])) t → Steps p.tables e below (s₁.setTop (entryFrame m #[(.ref a1)] 1)) t := fun t k => castTop (ef_1 m a1) k
  obtain ⟨T1, X1, e1, st1⟩ := getS2 X0 hx hZ hown (host := "") (Or.inl (ow hw 44 rfl)) Via.refl e0 S0 (g := (mkF m 1 #[.val (.ref a1)] [(.ref a1)])) rfl (hb hby d1_1)
  obtain ⟨fs, hr, hrun, hended, hW, hsame⟩ := X1.leave (v := some (.int (1 : Int32))) (fun h => by rw [Bd.returns] at h; cases h)
  refine ⟨_, _, pre0 _ ?_, hrun, hended, _, _, rfl, ?_, ⟨_, rfl⟩, hW, hsame.mono (by decide) (by decide)⟩
  · show Steps p.tables e below (s₁.setTop (mkF m 0 #[.val (.ref a1)] [])) _
    refine XS.aloadN X0.here hx rfl (hb hby d1_0) rfl rfl ?_
    show Steps p.tables e below (s₁.setTop (mkF m 1 #[.val (.ref a1)] [(.ref a1)])) _
    refine st1 _ ?_
    show Steps p.tables e below (T1.setTop (mkF m 4 #[.val (.ref a1)] [(.ref w0), (.ref a1)])) _
    refine Jvm.RoadKit.acmp (g := (mkF m 4 #[.val (.ref a1)] [(.ref w0), (.ref a1)])) X1 hx rfl rfl rfl (pc0 := 4) (pc' := 21) (same := true) rfl (hb hby d1_4) rfl (decide_eq_true (congrArg Value.ref ha4)) (by decide) (by decide) ?_
    show Steps p.tables e below (T1.setTop (mkF m 21 #[.val (.ref a1)] [])) _
    refine XS.iconst X1.here hx rfl (hb hby d1_21) ?_
    show Steps p.tables e below (T1.setTop (mkF m 22 #[.val (.ref a1)] [(.int (1 : Int32))])) _
    refine XS.goto X1.here hx rfl (pc0 := 22) (pc' := 26) rfl (hb hby d1_22) (by decide) (by decide) ?_
    show Steps p.tables e below (T1.setTop (mkF m 26 #[.val (.ref a1)] [(.int (1 : Int32))])) _
    exact retN X1 hx (t := .boolean) Bd.returns (by simp) (hb hby d1_26) hr
  · show QP (some (.int (1 : Int32))) h0 n0 _ T1.heap _
    rw [e1]
    exact ⟨rfl, N0, rfl⟩
theorem d1_7 : decode prog_79_method_26_code 7 = .ok (.aload_n 0, 1) := by decide +kernel
theorem d1_8 : decode prog_79_method_26_code 8 = .ok (.getstatic 19, 3) := by decide +kernel
theorem d1_11 : decode prog_79_method_26_code 11 = .ok (.if_acmp .eq 10, 3) := by decide +kernel
set_option maxRecDepth 65536 in
set_option maxHeartbeats 40000000 in
theorem rm1_ft (l : Launch) (Z : State) (a0 : Array Value) (hw : ∀ d ∈ tables_1, d.before a0 Z = true) (ws : List Jvm.Cond) (a1 : Addr) (w0 : Addr) (w1 : Addr) (w2 : Addr) (h0 : Heap) (n0 : Nat) (Z0 : n0 ≤ h0.size) (S0 : Sta Z h0 "com/example/authzlint/authzlint/model/DataType" "TIME" "Lcom/example/authzlint/authzlint/model/DataType;" (.ref w0)) (S1 : Sta Z h0 "com/example/authzlint/authzlint/model/DataType" "DATE" "Lcom/example/authzlint/authzlint/model/DataType;" (.ref w1)) (S2 : Sta Z h0 "com/example/authzlint/authzlint/model/DataType" "DATE_TIME" "Lcom/example/authzlint/authzlint/model/DataType;" (.ref w2)) (ha4 : ¬ (a1 = w0)) (ha11 : a1 = w1) :
    MetFree l nm_1 (head1 (Jvm.Cond.code nm_1 prog_79_method_26_code 1 (some .boolean) :: ws) rr0) (fun aa U => aa = #[(.ref a1)] ∧ Z.Warmed39 U.vm ∧ U.heap = h0) (fun _ _ _ _ _ => True) (fun _ U o U' => ∃ v L, o = .returned v ∧ QP (some (.int (1 : Int32))) h0 n0 v U'.heap L ∧ FrameEnd U o U' L rr0.cells rr0.slots) := by
  refine MetFree.of_bodySF (plainFor_of_name pn_com_example_authzlint_authzlint_model_DataType) hisR ?_
  intro p e s m args below meth c s₁ Bd hml0 hP hK
  obtain ⟨rfl, hZ, hh⟩ := hP
  have hx := Bd.exec
  have hby := Bd.bytes
  have hml : c.maxLocals = 1 := hml0
  have hown : s.vm.findClass "com/example/authzlint/authzlint/model/DataType" = some m.cls := findClass_of_methodNamed Bd.named
  have hnm := (name_of_methodNamed Bd.named Bd.method).1
  have X0 : Stand p l e rr0 s m #[(.ref a1)] below meth c s₁ [] 0 0 := Stand.of_body Bd
  have e0 : s₁.heap = h0 := by rw [← hh, Bd.state]; rfl
  have N0 := Fr.nil n0
  have pre0 : ∀ t, Steps p.tables e below (s₁.setTop (mkF m 0 #[.val (.ref a1)] [])) t → Steps p.tables e below (s₁.setTop (entryFrame m #[(.ref a1)] 1)) t := fun t k => castTop (ef_1 m a1) k
  obtain ⟨T1, X1, e1, st1⟩ := getS2 X0 hx hZ hown (host := "") (Or.inl (ow hw 44 rfl)) Via.refl e0 S0 (g := (mkF m 1 #[.val (.ref a1)] [(.ref a1)])) rfl (hb hby d1_1)
  obtain ⟨T2, X2, e2, st2⟩ := getS2 X1 hx hZ hown (host := "") (Or.inl (ow hw 45 rfl)) Via.refl e1 S1 (g := (mkF m 8 #[.val (.ref a1)] [(.ref a1)])) rfl (hb hby d1_8)
  obtain ⟨fs, hr, hrun, hended, hW, hsame⟩ := X2.leave (v := some (.int (1 : Int32))) (fun h => by rw [Bd.returns] at h; cases h)
  refine ⟨_, _, pre0 _ ?_, hrun, hended, _, _, rfl, ?_, ⟨_, rfl⟩, hW, hsame.mono (by decide) (by decide)⟩
  · show Steps p.tables e below (s₁.setTop (mkF m 0 #[.val (.ref a1)] [])) _
    refine XS.aloadN X0.here hx rfl (hb hby d1_0) rfl rfl ?_
    show Steps p.tables e below (s₁.setTop (mkF m 1 #[.val (.ref a1)] [(.ref a1)])) _
    refine st1 _ ?_
    show Steps p.tables e below (T1.setTop (mkF m 4 #[.val (.ref a1)] [(.ref w0), (.ref a1)])) _
    refine Jvm.RoadKit.acmp (g := (mkF m 4 #[.val (.ref a1)] [(.ref w0), (.ref a1)])) X1 hx rfl rfl rfl (pc0 := 4) (pc' := 7) (same := false) rfl (hb hby d1_4) rfl (decide_eq_false fun q => ha4 (Value.ref.inj q)) (by decide) (by decide) ?_
    show Steps p.tables e below (T1.setTop (mkF m 7 #[.val (.ref a1)] [])) _
    refine XS.aloadN X1.here hx rfl (hb hby d1_7) rfl rfl ?_
    show Steps p.tables e below (T1.setTop (mkF m 8 #[.val (.ref a1)] [(.ref a1)])) _
    refine st2 _ ?_
    show Steps p.tables e below (T2.setTop (mkF m 11 #[.val (.ref a1)] [(.ref w1), (.ref a1)])) _
    refine Jvm.RoadKit.acmp (g := (mkF m 11 #[.val (.ref a1)] [(.ref w1), (.ref a1)])) X2 hx rfl rfl rfl (pc0 := 11) (pc' := 21) (same := true) rfl (hb hby d1_11) rfl (decide_eq_true (congrArg Value.ref ha11)) (by decide) (by decide) ?_
    show Steps p.tables e below (T2.setTop (mkF m 21 #[.val (.ref a1)] [])) _
    refine XS.iconst X2.here hx rfl (hb hby d1_21) ?_
    show Steps p.tables e below (T2.setTop (mkF m 22 #[.val (.ref a1)] [(.int (1 : Int32))])) _
    refine XS.goto X2.here hx rfl (pc0 := 22) (pc' := 26) rfl (hb hby d1_22) (by decide) (by decide) ?_
    show Steps p.tables e below (T2.setTop (mkF m 26 #[.val (.ref a1)] [(.int (1 : Int32))])) _
    exact retN X2 hx (t := .boolean) Bd.returns (by simp) (hb hby d1_26) hr
  · show QP (some (.int (1 : Int32))) h0 n0 _ T2.heap _
    rw [e2]
    exact ⟨rfl, N0, rfl⟩
theorem d1_14 : decode prog_79_method_26_code 14 = .ok (.aload_n 0, 1) := by decide +kernel
theorem d1_15 : decode prog_79_method_26_code 15 = .ok (.getstatic 22, 3) := by decide +kernel
theorem d1_18 : decode prog_79_method_26_code 18 = .ok (.if_acmp .ne 7, 3) := by decide +kernel
set_option maxRecDepth 65536 in
set_option maxHeartbeats 40000000 in
theorem rm1_fff (l : Launch) (Z : State) (a0 : Array Value) (hw : ∀ d ∈ tables_1, d.before a0 Z = true) (ws : List Jvm.Cond) (a1 : Addr) (w0 : Addr) (w1 : Addr) (w2 : Addr) (h0 : Heap) (n0 : Nat) (Z0 : n0 ≤ h0.size) (S0 : Sta Z h0 "com/example/authzlint/authzlint/model/DataType" "TIME" "Lcom/example/authzlint/authzlint/model/DataType;" (.ref w0)) (S1 : Sta Z h0 "com/example/authzlint/authzlint/model/DataType" "DATE" "Lcom/example/authzlint/authzlint/model/DataType;" (.ref w1)) (S2 : Sta Z h0 "com/example/authzlint/authzlint/model/DataType" "DATE_TIME" "Lcom/example/authzlint/authzlint/model/DataType;" (.ref w2)) (ha4 : ¬ (a1 = w0)) (ha11 : ¬ (a1 = w1)) (ha18 : a1 = w2) :
    MetFree l nm_1 (head1 (Jvm.Cond.code nm_1 prog_79_method_26_code 1 (some .boolean) :: ws) rr0) (fun aa U => aa = #[(.ref a1)] ∧ Z.Warmed39 U.vm ∧ U.heap = h0) (fun _ _ _ _ _ => True) (fun _ U o U' => ∃ v L, o = .returned v ∧ QP (some (.int (1 : Int32))) h0 n0 v U'.heap L ∧ FrameEnd U o U' L rr0.cells rr0.slots) := by
  refine MetFree.of_bodySF (plainFor_of_name pn_com_example_authzlint_authzlint_model_DataType) hisR ?_
  intro p e s m args below meth c s₁ Bd hml0 hP hK
  obtain ⟨rfl, hZ, hh⟩ := hP
  have hx := Bd.exec
  have hby := Bd.bytes
  have hml : c.maxLocals = 1 := hml0
  have hown : s.vm.findClass "com/example/authzlint/authzlint/model/DataType" = some m.cls := findClass_of_methodNamed Bd.named
  have hnm := (name_of_methodNamed Bd.named Bd.method).1
  have X0 : Stand p l e rr0 s m #[(.ref a1)] below meth c s₁ [] 0 0 := Stand.of_body Bd
  have e0 : s₁.heap = h0 := by rw [← hh, Bd.state]; rfl
  have N0 := Fr.nil n0
  have pre0 : ∀ t, Steps p.tables e below (s₁.setTop (mkF m 0 #[.val (.ref a1)] [])) t → Steps p.tables e below (s₁.setTop (entryFrame m #[(.ref a1)] 1)) t := fun t k => castTop (ef_1 m a1) k
  obtain ⟨T1, X1, e1, st1⟩ := getS2 X0 hx hZ hown (host := "") (Or.inl (ow hw 44 rfl)) Via.refl e0 S0 (g := (mkF m 1 #[.val (.ref a1)] [(.ref a1)])) rfl (hb hby d1_1)
  obtain ⟨T2, X2, e2, st2⟩ := getS2 X1 hx hZ hown (host := "") (Or.inl (ow hw 45 rfl)) Via.refl e1 S1 (g := (mkF m 8 #[.val (.ref a1)] [(.ref a1)])) rfl (hb hby d1_8)
  obtain ⟨T3, X3, e3, st3⟩ := getS2 X2 hx hZ hown (host := "") (Or.inl (ow hw 46 rfl)) Via.refl e2 S2 (g := (mkF m 15 #[.val (.ref a1)] [(.ref a1)])) rfl (hb hby d1_15)
  obtain ⟨fs, hr, hrun, hended, hW, hsame⟩ := X3.leave (v := some (.int (1 : Int32))) (fun h => by rw [Bd.returns] at h; cases h)
  refine ⟨_, _, pre0 _ ?_, hrun, hended, _, _, rfl, ?_, ⟨_, rfl⟩, hW, hsame.mono (by decide) (by decide)⟩
  · show Steps p.tables e below (s₁.setTop (mkF m 0 #[.val (.ref a1)] [])) _
    refine XS.aloadN X0.here hx rfl (hb hby d1_0) rfl rfl ?_
    show Steps p.tables e below (s₁.setTop (mkF m 1 #[.val (.ref a1)] [(.ref a1)])) _
    refine st1 _ ?_
    show Steps p.tables e below (T1.setTop (mkF m 4 #[.val (.ref a1)] [(.ref w0), (.ref a1)])) _
    refine Jvm.RoadKit.acmp (g := (mkF m 4 #[.val (.ref a1)] [(.ref w0), (.ref a1)])) X1 hx rfl rfl rfl (pc0 := 4) (pc' := 7) (same := false) rfl (hb hby d1_4) rfl (decide_eq_false fun q => ha4 (Value.ref.inj q)) (by decide) (by decide) ?_
    show Steps p.tables e below (T1.setTop (mkF m 7 #[.val (.ref a1)] [])) _
    refine XS.aloadN X1.here hx rfl (hb hby d1_7) rfl rfl ?_
    show Steps p.tables e below (T1.setTop (mkF m 8 #[.val (.ref a1)] [(.ref a1)])) _
    refine st2 _ ?_
    show Steps p.tables e below (T2.setTop (mkF m 11 #[.val (.ref a1)] [(.ref w1), (.ref a1)])) _
    refine Jvm.RoadKit.acmp (g := (mkF m 11 #[.val (.ref a1)] [(.ref w1), (.ref a1)])) X2 hx rfl rfl rfl (pc0 := 11) (pc' := 14) (same := false) rfl (hb hby d1_11) rfl (decide_eq_false fun q => ha11 (Value.ref.inj q)) (by decide) (by decide) ?_
    show Steps p.tables e below (T2.setTop (mkF m 14 #[.val (.ref a1)] [])) _
    refine XS.aloadN X2.here hx rfl (hb hby d1_14) rfl rfl ?_
    show Steps p.tables e below (T2.setTop (mkF m 15 #[.val (.ref a1)] [(.ref a1)])) _
    refine st3 _ ?_
    show Steps p.tables e below (T3.setTop (mkF m 18 #[.val (.ref a1)] [(.ref w2), (.ref a1)])) _
    refine Jvm.RoadKit.acmp (g := (mkF m 18 #[.val (.ref a1)] [(.ref w2), (.ref a1)])) X3 hx rfl rfl rfl (pc0 := 18) (pc' := 21) (same := true) rfl (hb hby d1_18) rfl (decide_eq_true (congrArg Value.ref ha18)) (by decide) (by decide) ?_
    show Steps p.tables e below (T3.setTop (mkF m 21 #[.val (.ref a1)] [])) _
    refine XS.iconst X3.here hx rfl (hb hby d1_21) ?_
    show Steps p.tables e below (T3.setTop (mkF m 22 #[.val (.ref a1)] [(.int (1 : Int32))])) _
    refine XS.goto X3.here hx rfl (pc0 := 22) (pc' := 26) rfl (hb hby d1_22) (by decide) (by decide) ?_
    show Steps p.tables e below (T3.setTop (mkF m 26 #[.val (.ref a1)] [(.int (1 : Int32))])) _
    exact retN X3 hx (t := .boolean) Bd.returns (by simp) (hb hby d1_26) hr
  · show QP (some (.int (1 : Int32))) h0 n0 _ T3.heap _
    rw [e3]
    exact ⟨rfl, N0, rfl⟩
theorem d1_25 : decode prog_79_method_26_code 25 = .ok (.iconst 0, 1) := by decide +kernel
set_option maxRecDepth 65536 in
set_option maxHeartbeats 40000000 in
theorem rm1_fft (l : Launch) (Z : State) (a0 : Array Value) (hw : ∀ d ∈ tables_1, d.before a0 Z = true) (ws : List Jvm.Cond) (a1 : Addr) (w0 : Addr) (w1 : Addr) (w2 : Addr) (h0 : Heap) (n0 : Nat) (Z0 : n0 ≤ h0.size) (S0 : Sta Z h0 "com/example/authzlint/authzlint/model/DataType" "TIME" "Lcom/example/authzlint/authzlint/model/DataType;" (.ref w0)) (S1 : Sta Z h0 "com/example/authzlint/authzlint/model/DataType" "DATE" "Lcom/example/authzlint/authzlint/model/DataType;" (.ref w1)) (S2 : Sta Z h0 "com/example/authzlint/authzlint/model/DataType" "DATE_TIME" "Lcom/example/authzlint/authzlint/model/DataType;" (.ref w2)) (ha4 : ¬ (a1 = w0)) (ha11 : ¬ (a1 = w1)) (ha18 : ¬ (a1 = w2)) :
    MetFree l nm_1 (head1 (Jvm.Cond.code nm_1 prog_79_method_26_code 1 (some .boolean) :: ws) rr0) (fun aa U => aa = #[(.ref a1)] ∧ Z.Warmed39 U.vm ∧ U.heap = h0) (fun _ _ _ _ _ => True) (fun _ U o U' => ∃ v L, o = .returned v ∧ QP (some (.int (0 : Int32))) h0 n0 v U'.heap L ∧ FrameEnd U o U' L rr0.cells rr0.slots) := by
  refine MetFree.of_bodySF (plainFor_of_name pn_com_example_authzlint_authzlint_model_DataType) hisR ?_
  intro p e s m args below meth c s₁ Bd hml0 hP hK
  obtain ⟨rfl, hZ, hh⟩ := hP
  have hx := Bd.exec
  have hby := Bd.bytes
  have hml : c.maxLocals = 1 := hml0
  have hown : s.vm.findClass "com/example/authzlint/authzlint/model/DataType" = some m.cls := findClass_of_methodNamed Bd.named
  have hnm := (name_of_methodNamed Bd.named Bd.method).1
  have X0 : Stand p l e rr0 s m #[(.ref a1)] below meth c s₁ [] 0 0 := Stand.of_body Bd
  have e0 : s₁.heap = h0 := by rw [← hh, Bd.state]; rfl
  have N0 := Fr.nil n0
  have pre0 : ∀ t, Steps p.tables e below (s₁.setTop (mkF m 0 #[.val (.ref a1)] [])) t → Steps p.tables e below (s₁.setTop (entryFrame m #[(.ref a1)] 1)) t := fun t k => castTop (ef_1 m a1) k
  obtain ⟨T1, X1, e1, st1⟩ := getS2 X0 hx hZ hown (host := "") (Or.inl (ow hw 44 rfl)) Via.refl e0 S0 (g := (mkF m 1 #[.val (.ref a1)] [(.ref a1)])) rfl (hb hby d1_1)
  obtain ⟨T2, X2, e2, st2⟩ := getS2 X1 hx hZ hown (host := "") (Or.inl (ow hw 45 rfl)) Via.refl e1 S1 (g := (mkF m 8 #[.val (.ref a1)] [(.ref a1)])) rfl (hb hby d1_8)
  obtain ⟨T3, X3, e3, st3⟩ := getS2 X2 hx hZ hown (host := "") (Or.inl (ow hw 46 rfl)) Via.refl e2 S2 (g := (mkF m 15 #[.val (.ref a1)] [(.ref a1)])) rfl (hb hby d1_15)
  obtain ⟨fs, hr, hrun, hended, hW, hsame⟩ := X3.leave (v := some (.int (0 : Int32))) (fun h => by rw [Bd.returns] at h; cases h)
  refine ⟨_, _, pre0 _ ?_, hrun, hended, _, _, rfl, ?_, ⟨_, rfl⟩, hW, hsame.mono (by decide) (by decide)⟩
  · show Steps p.tables e below (s₁.setTop (mkF m 0 #[.val (.ref a1)] [])) _
    refine XS.aloadN X0.here hx rfl (hb hby d1_0) rfl rfl ?_
    show Steps p.tables e below (s₁.setTop (mkF m 1 #[.val (.ref a1)] [(.ref a1)])) _
    refine st1 _ ?_
    show Steps p.tables e below (T1.setTop (mkF m 4 #[.val (.ref a1)] [(.ref w0), (.ref a1)])) _
    refine Jvm.RoadKit.acmp (g := (mkF m 4 #[.val (.ref a1)] [(.ref w0), (.ref a1)])) X1 hx rfl rfl rfl (pc0 := 4) (pc' := 7) (same := false) rfl (hb hby d1_4) rfl (decide_eq_false fun q => ha4 (Value.ref.inj q)) (by decide) (by decide) ?_
    show Steps p.tables e below (T1.setTop (mkF m 7 #[.val (.ref a1)] [])) _
    refine XS.aloadN X1.here hx rfl (hb hby d1_7) rfl rfl ?_
    show Steps p.tables e below (T1.setTop (mkF m 8 #[.val (.ref a1)] [(.ref a1)])) _
    refine st2 _ ?_
    show Steps p.tables e below (T2.setTop (mkF m 11 #[.val (.ref a1)] [(.ref w1), (.ref a1)])) _
    refine Jvm.RoadKit.acmp (g := (mkF m 11 #[.val (.ref a1)] [(.ref w1), (.ref a1)])) X2 hx rfl rfl rfl (pc0 := 11) (pc' := 14) (same := false) rfl (hb hby d1_11) rfl (decide_eq_false fun q => ha11 (Value.ref.inj q)) (by decide) (by decide) ?_
    show Steps p.tables e below (T2.setTop (mkF m 14 #[.val (.ref a1)] [])) _
    refine XS.aloadN X2.here hx rfl (hb hby d1_14) rfl rfl ?_
    show Steps p.tables e below (T2.setTop (mkF m 15 #[.val (.ref a1)] [(.ref a1)])) _
    refine st3 _ ?_
    show Steps p.tables e below (T3.setTop (mkF m 18 #[.val (.ref a1)] [(.ref w2), (.ref a1)])) _
    refine Jvm.RoadKit.acmp (g := (mkF m 18 #[.val (.ref a1)] [(.ref w2), (.ref a1)])) X3 hx rfl rfl rfl (pc0 := 18) (pc' := 25) (same := false) rfl (hb hby d1_18) rfl (decide_eq_false fun q => ha18 (Value.ref.inj q)) (by decide) (by decide) ?_
    show Steps p.tables e below (T3.setTop (mkF m 25 #[.val (.ref a1)] [])) _
    refine XS.iconst X3.here hx rfl (hb hby d1_25) ?_
    show Steps p.tables e below (T3.setTop (mkF m 26 #[.val (.ref a1)] [(.int (0 : Int32))])) _
    exact retN X3 hx (t := .boolean) Bd.returns (by simp) (hb hby d1_26) hr
  · show QP (some (.int (0 : Int32))) h0 n0 _ T3.heap _
    rw [e3]
    exact ⟨rfl, N0, rfl⟩
theorem rm1 (l : Launch) (Z : State) (a0 : Array Value) (hw : ∀ d ∈ tables_1, d.before a0 Z = true) (ws : List Jvm.Cond) (a1 w0 w1 w2 : Addr) (h0 : Heap) (n0 : Nat) (Z0 : n0 ≤ h0.size) (S0 : Sta Z h0 "com/example/authzlint/authzlint/model/DataType" "TIME" "Lcom/example/authzlint/authzlint/model/DataType;" (.ref w0)) (S1 : Sta Z h0 "com/example/authzlint/authzlint/model/DataType" "DATE" "Lcom/example/authzlint/authzlint/model/DataType;" (.ref w1)) (S2 : Sta Z h0 "com/example/authzlint/authzlint/model/DataType" "DATE_TIME" "Lcom/example/authzlint/authzlint/model/DataType;" (.ref w2)) :
    MetFree l nm_1 (head1 (Jvm.Cond.code nm_1 prog_79_method_26_code 1 (some .boolean) :: ws) rr0) (fun aa U => aa = #[(.ref a1)] ∧ Z.Warmed39 U.vm ∧ U.heap = h0) (fun _ _ _ _ _ => True) (fun _ U o U' => ∃ v L, o = .returned v ∧ QP (some (.int (if a1 = w0 ∨ a1 = w1 ∨ a1 = w2 then (1 : Int32) else 0))) h0 n0 v U'.heap L ∧ FrameEnd U o U' L rr0.cells rr0.slots) := by
  by_cases q0 : a1 = w0
  · rw [if_pos (Or.inl q0)]; exact rm1_t l Z a0 hw ws a1 w0 w1 w2 h0 n0 Z0 S0 S1 S2 q0
  by_cases q1 : a1 = w1
  · rw [if_pos (Or.inr (Or.inl q1))]; exact rm1_ft l Z a0 hw ws a1 w0 w1 w2 h0 n0 Z0 S0 S1 S2 q0 q1
  by_cases q2 : a1 = w2
  · rw [if_pos (Or.inr (Or.inr q2))]; exact rm1_fff l Z a0 hw ws a1 w0 w1 w2 h0 n0 Z0 S0 S1 S2 q0 q1 q2
  · rw [if_neg (fun q => q.elim q0 fun q => q.elim q1 q2)]; exact rm1_fft l Z a0 hw ws a1 w0 w1 w2 h0 n0 Z0 S0 S1 S2 q0 q1 q2
theorem pd_0 : parseMethodDescriptor "()Z" = some ⟨[], some .boolean⟩ := by decide +kernel
theorem pn_com_example_authzlint_authzlint_model_DataTypeHasTimeZonesPinLaw : plainName "com/example/authzlint/authzlint/model/DataTypeHasTimeZonesPinLaw" = true := by first | (simp [plainName, overriddenIn]; done) | decide +kernel
theorem ef_0 (m : MethodId) (x0 : Int32) : entryFrame m #[(.int x0)] maxLocals = mkF m 0 #[.val (.int x0), .unset, .unset, .unset, .unset] [] := by first | (simp [entryFrame, mkF, argsToLocals, Value.category, maxLocals]; done) | rfl
set_option maxRecDepth 65536 in
set_option maxHeartbeats 40000000 in
theorem rm0_t (l : Launch) (Z : State) (a0 : Array Value) (hw : ∀ d ∈ tables_1, d.before a0 Z = true) (ws : List Jvm.Cond) (p1 : Int32) (kk : Nat) (a : Addr) (ad0 : Addr) (ad1 : Addr) (ad2 : Addr) (ad3 : Addr) (ad4 : Addr) (ad5 : Addr) (ad6 : Addr) (ad7 : Addr) (ad8 : Addr) (ad9 : Addr) (ad10 : Addr) (ad11 : Addr) (ad12 : Addr) (ad13 : Addr) (ad14 : Addr) (ad15 : Addr) (ad16 : Addr) (h0 : Heap) (n0 : Nat) (Z0 : n0 ≤ h0.size) (S0 : Sta Z h0 "com/example/authzlint/authzlint/model/DataType" "STRING" "Lcom/example/authzlint/authzlint/model/DataType;" (.ref ad0)) (S1 : Sta Z h0 "com/example/authzlint/authzlint/model/DataType" "BOOLEAN" "Lcom/example/authzlint/authzlint/model/DataType;" (.ref ad1)) (S2 : Sta Z h0 "com/example/authzlint/authzlint/model/DataType" "INTEGER" "Lcom/example/authzlint/authzlint/model/DataType;" (.ref ad2)) (S3 : Sta Z h0 "com/example/authzlint/authzlint/model/DataType" "DOUBLE" "Lcom/example/authzlint/authzlint/model/DataType;" (.ref ad3)) (S4 : Sta Z h0 "com/example/authzlint/authzlint/model/DataType" "TIME" "Lcom/example/authzlint/authzlint/model/DataType;" (.ref ad4)) (S5 : Sta Z h0 "com/example/authzlint/authzlint/model/DataType" "DATE" "Lcom/example/authzlint/authzlint/model/DataType;" (.ref ad5)) (S6 : Sta Z h0 "com/example/authzlint/authzlint/model/DataType" "DATE_TIME" "Lcom/example/authzlint/authzlint/model/DataType;" (.ref ad6)) (S7 : Sta Z h0 "com/example/authzlint/authzlint/model/DataType" "ANY_URI" "Lcom/example/authzlint/authzlint/model/DataType;" (.ref ad7)) (S8 : Sta Z h0 "com/example/authzlint/authzlint/model/DataType" "HEX_BINARY" "Lcom/example/authzlint/authzlint/model/DataType;" (.ref ad8)) (S9 : Sta Z h0 "com/example/authzlint/authzlint/model/DataType" "BASE64_BINARY" "Lcom/example/authzlint/authzlint/model/DataType;" (.ref ad9)) (S10 : Sta Z h0 "com/example/authzlint/authzlint/model/DataType" "DAY_TIME_DURATION" "Lcom/example/authzlint/authzlint/model/DataType;" (.ref ad10)) (S11 : Sta Z h0 "com/example/authzlint/authzlint/model/DataType" "YEAR_MONTH_DURATION" "Lcom/example/authzlint/authzlint/model/DataType;" (.ref ad11)) (S12 : Sta Z h0 "com/example/authzlint/authzlint/model/DataType" "X500_NAME" "Lcom/example/authzlint/authzlint/model/DataType;" (.ref ad12)) (S13 : Sta Z h0 "com/example/authzlint/authzlint/model/DataType" "RFC822_NAME" "Lcom/example/authzlint/authzlint/model/DataType;" (.ref ad13)) (S14 : Sta Z h0 "com/example/authzlint/authzlint/model/DataType" "IP_ADDRESS" "Lcom/example/authzlint/authzlint/model/DataType;" (.ref ad14)) (S15 : Sta Z h0 "com/example/authzlint/authzlint/model/DataType" "DNS_NAME" "Lcom/example/authzlint/authzlint/model/DataType;" (.ref ad15)) (S16 : Sta Z h0 "com/example/authzlint/authzlint/model/DataType" "XPATH_EXPRESSION" "Lcom/example/authzlint/authzlint/model/DataType;" (.ref ad16)) (Ex0 : Exa Z h0 ad0 "com/example/authzlint/authzlint/model/DataType") (Ex1 : Exa Z h0 ad1 "com/example/authzlint/authzlint/model/DataType") (Ex2 : Exa Z h0 ad2 "com/example/authzlint/authzlint/model/DataType") (Ex3 : Exa Z h0 ad3 "com/example/authzlint/authzlint/model/DataType") (Ex4 : Exa Z h0 ad4 "com/example/authzlint/authzlint/model/DataType") (Ex5 : Exa Z h0 ad5 "com/example/authzlint/authzlint/model/DataType") (Ex6 : Exa Z h0 ad6 "com/example/authzlint/authzlint/model/DataType") (Ex7 : Exa Z h0 ad7 "com/example/authzlint/authzlint/model/DataType") (Ex8 : Exa Z h0 ad8 "com/example/authzlint/authzlint/model/DataType") (Ex9 : Exa Z h0 ad9 "com/example/authzlint/authzlint/model/DataType") (Ex10 : Exa Z h0 ad10 "com/example/authzlint/authzlint/model/DataType") (Ex11 : Exa Z h0 ad11 "com/example/authzlint/authzlint/model/DataType") (Ex12 : Exa Z h0 ad12 "com/example/authzlint/authzlint/model/DataType") (Ex13 : Exa Z h0 ad13 "com/example/authzlint/authzlint/model/DataType") (Ex14 : Exa Z h0 ad14 "com/example/authzlint/authzlint/model/DataType") (Ex15 : Exa Z h0 ad15 "com/example/authzlint/authzlint/model/DataType") (Ex16 : Exa Z h0 ad16 "com/example/authzlint/authzlint/model/DataType") (ExA : Exa Z h0 a "com/example/authzlint/authzlint/model/DataType") (hkk : kk < 17) (hk : ((p1 &&& (2147483647 : Int32)) % (17 : Int32)) = Int32.ofNat kk) (hget : ([(.ref ad0), (.ref ad1), (.ref ad2), (.ref ad3), (.ref ad4), (.ref ad5), (.ref ad6), (.ref ad7), (.ref ad8), (.ref ad9), (.ref ad10), (.ref ad11), (.ref ad12), (.ref ad13), (.ref ad14), (.ref ad15), (.ref ad16)] : List Value).getD kk .null = (.ref a)) (hc133 : ((p1 &&& (2147483647 : Int32)) % (17 : Int32)) = (4 : Int32)) (hc160 : (if a = ad4 ∨ a = ad5 ∨ a = ad6 then (1 : Int32) else 0) = (1 : Int32)) :
    MetFree l x (head1 (Jvm.Cond.code x code maxLocals ret :: ws) room_1) (fun aa U => aa = #[(.int p1)] ∧ Z.Warmed39 U.vm ∧ U.heap = h0) (fun _ _ _ _ _ => True) (fun _ U o U' => ∃ v L, o = .returned v ∧ QF (some (.int (1 : Int32))) h0 n0 v U'.heap L ∧ FrameEnd U o U' L room_1.cells room_1.slots) := by
  refine MetFree.of_bodySF (plainFor_of_name pn_com_example_authzlint_authzlint_model_DataTypeHasTimeZonesPinLaw) hisR ?_
  intro p e s m args below meth c s₁ Bd hml0 hP hK
  obtain ⟨rfl, hZ, hh⟩ := hP
  have hx := Bd.exec
  have hby := Bd.bytes
  have hml : c.maxLocals = 5 := hml0
  have hown : s.vm.findClass "com/example/authzlint/authzlint/model/DataTypeHasTimeZonesPinLaw" = some m.cls := findClass_of_methodNamed Bd.named
  have hnm := (name_of_methodNamed Bd.named Bd.method).1
  have X0 : Stand p l e room_1 s m #[(.int p1)] below meth c s₁ [] 0 0 := Stand.of_body Bd
  have e0 : s₁.heap = h0 := by rw [← hh, Bd.state]; rfl
  have N0 := Fr.nil n0
  have pre0 : ∀ t, Steps p.tables e below (s₁.setTop (mkF m 0 #[.val (.int p1), .unset, .unset, .unset, .unset] [])) t → Steps p.tables e below (s₁.setTop (entryFrame m #[(.int p1)] maxLocals)) t := fun t k => castTop (ef_0 m p1) k
  obtain ⟨T1, h1, k1, X1, e1, E1, A1, O1, st1⟩ := newR X0 hx hZ hown (ow hw 0 rfl) (ow hw 1 rfl) e0 (g := (mkF m 2 #[.val (.int p1), .unset, .unset, .unset, .unset] [(.int (17 : Int32))])) rfl (hb hby at_2) rfl (by decide) (cap := 17) (by decide) (by decide) (by decide) (by decide)
  obtain ⟨b1, g_b1⟩ : ∃ z, z = h0.size := ⟨_, rfl⟩
  rw [← g_b1] at A1 st1
  have g0_b1 : n0 ≤ b1 := Nat.le_trans Z0 (Nat.le_of_eq g_b1.symm)
  have sz_b1 : h0.size ≤ b1 := Nat.le_trans (Nat.le_refl _) (Nat.le_of_eq g_b1.symm)
  have ne_ad0_b1 : ad0 ≠ b1 := Nat.ne_of_lt (Nat.lt_of_lt_of_le Ex0.lt (Nat.le_of_eq g_b1.symm))
  have ne_ad1_b1 : ad1 ≠ b1 := Nat.ne_of_lt (Nat.lt_of_lt_of_le Ex1.lt (Nat.le_of_eq g_b1.symm))
  have ne_ad2_b1 : ad2 ≠ b1 := Nat.ne_of_lt (Nat.lt_of_lt_of_le Ex2.lt (Nat.le_of_eq g_b1.symm))
  have ne_ad3_b1 : ad3 ≠ b1 := Nat.ne_of_lt (Nat.lt_of_lt_of_le Ex3.lt (Nat.le_of_eq g_b1.symm))
  have ne_ad4_b1 : ad4 ≠ b1 := Nat.ne_of_lt (Nat.lt_of_lt_of_le Ex4.lt (Nat.le_of_eq g_b1.symm))
  have ne_ad5_b1 : ad5 ≠ b1 := Nat.ne_of_lt (Nat.lt_of_lt_of_le Ex5.lt (Nat.le_of_eq g_b1.symm))
  have ne_ad6_b1 : ad6 ≠ b1 := Nat.ne_of_lt (Nat.lt_of_lt_of_le Ex6.lt (Nat.le_of_eq g_b1.symm))
  have ne_ad7_b1 : ad7 ≠ b1 := Nat.ne_of_lt (Nat.lt_of_lt_of_le Ex7.lt (Nat.le_of_eq g_b1.symm))
  have ne_ad8_b1 : ad8 ≠ b1 := Nat.ne_of_lt (Nat.lt_of_lt_of_le Ex8.lt (Nat.le_of_eq g_b1.symm))
  have ne_ad9_b1 : ad9 ≠ b1 := Nat.ne_of_lt (Nat.lt_of_lt_of_le Ex9.lt (Nat.le_of_eq g_b1.symm))
  have ne_ad10_b1 : ad10 ≠ b1 := Nat.ne_of_lt (Nat.lt_of_lt_of_le Ex10.lt (Nat.le_of_eq g_b1.symm))
  have ne_ad11_b1 : ad11 ≠ b1 := Nat.ne_of_lt (Nat.lt_of_lt_of_le Ex11.lt (Nat.le_of_eq g_b1.symm))
  have ne_ad12_b1 : ad12 ≠ b1 := Nat.ne_of_lt (Nat.lt_of_lt_of_le Ex12.lt (Nat.le_of_eq g_b1.symm))
  have ne_ad13_b1 : ad13 ≠ b1 := Nat.ne_of_lt (Nat.lt_of_lt_of_le Ex13.lt (Nat.le_of_eq g_b1.symm))
  have ne_ad14_b1 : ad14 ≠ b1 := Nat.ne_of_lt (Nat.lt_of_lt_of_le Ex14.lt (Nat.le_of_eq g_b1.symm))
  have ne_ad15_b1 : ad15 ≠ b1 := Nat.ne_of_lt (Nat.lt_of_lt_of_le Ex15.lt (Nat.le_of_eq g_b1.symm))
  have ne_ad16_b1 : ad16 ≠ b1 := Nat.ne_of_lt (Nat.lt_of_lt_of_le Ex16.lt (Nat.le_of_eq g_b1.symm))
  have ne_a_b1 : a ≠ b1 := Nat.ne_of_lt (Nat.lt_of_lt_of_le ExA.lt (Nat.le_of_eq g_b1.symm))
  have V_b1 : Arv Z h1 b1 k1 (.object "com/example/authzlint/authzlint/model/DataType") (17 : Int32) [.null, .null, .null, .null, .null, .null, .null, .null, .null, .null, .null, .null, .null, .null, .null, .null, .null] .null := (Arv.new A1 (by decide)).pad (pad_rep [] .null 17)
  have c3 := S0.ext E1
  obtain ⟨T2, X2, e2, st2⟩ := getS2 X1 hx hZ hown (host := "") (Or.inl (ow hw 2 rfl)) Via.refl e1 c3 (g := (mkF m 7 #[.val (.int p1), .unset, .unset, .unset, .unset] [(.int (0 : Int32)), (.ref b1), (.ref b1)])) rfl (hb hby at_7)
  obtain ⟨clz4, Arz4, qz4, Sz4, Nz4, Hz4, Gz4⟩ := V_b1
  have hin5 : ¬ ((0 : Int32) < 0 ∨ clz4.slots.size ≤ ((0 : Int32)).toNatClampNeg) := inb_of Sz4 ⟨by decide, by decide⟩
  have c6 := Ex0.ext E1
  obtain ⟨T5, h5, X5, e5, W5, st5⟩ := stR X2 hx hZ e2 Arz4 (j := (0 : Int32)) hin5 rfl (Sto.ofV Arz4 qz4 O1 (Ins.self c6)) (g := (mkF m 10 #[.val (.int p1), .unset, .unset, .unset, .unset] [(.ref ad0), (.int (0 : Int32)), (.ref b1), (.ref b1)])) rfl rfl (hb hby at_10)
  have V5 : Arv Z h5 b1 k1 (.object "com/example/authzlint/authzlint/model/DataType") (17 : Int32) [(.ref ad0), .null, .null, .null, .null, .null, .null, .null, .null, .null, .null, .null, .null, .null, .null, .null, .null] .null := Arv.set Arz4 qz4 Sz4 Nz4 Hz4 Gz4 rfl W5 0 rfl (Nat.le_of_ble_eq_true rfl)
  have N5 := Fr.snoc X5 N0 g0_b1
  have c8 := S1.ext E1
  have c9 := c8.wr W5
  obtain ⟨T7, X7, e7, st7⟩ := getS2 X5 hx hZ hown (host := "") (Or.inl (ow hw 6 rfl)) Via.refl e5 c9 (g := (mkF m 13 #[.val (.int p1), .unset, .unset, .unset, .unset] [(.int (1 : Int32)), (.ref b1), (.ref b1)])) rfl (hb hby at_13)
  obtain ⟨clz10, Arz10, qz10, Sz10, Nz10, Hz10, Gz10⟩ := V5
  have hin11 : ¬ ((1 : Int32) < 0 ∨ clz10.slots.size ≤ ((1 : Int32)).toNatClampNeg) := inb_of Sz10 ⟨by decide, by decide⟩
  have c12 := Ex1.ext E1
  have c13 := c12.wr W5
  obtain ⟨T11, h11, X11, e11, W11, st11⟩ := stR X7 hx hZ e7 Arz10 (j := (1 : Int32)) hin11 rfl (Sto.ofV Arz10 qz10 O1 (Ins.self c13)) (g := (mkF m 16 #[.val (.int p1), .unset, .unset, .unset, .unset] [(.ref ad1), (.int (1 : Int32)), (.ref b1), (.ref b1)])) rfl rfl (hb hby at_16)
  have V11 : Arv Z h11 b1 k1 (.object "com/example/authzlint/authzlint/model/DataType") (17 : Int32) [(.ref ad0), (.ref ad1), .null, .null, .null, .null, .null, .null, .null, .null, .null, .null, .null, .null, .null, .null, .null] .null := Arv.set Arz10 qz10 Sz10 Nz10 Hz10 Gz10 rfl W11 1 rfl (Nat.le_of_ble_eq_true rfl)
  have N11 := Fr.snoc X11 N5 g0_b1
  have c15 := S2.ext E1
  have c16 := c15.wr W5
  have c17 := c16.wr W11
  obtain ⟨T14, X14, e14, st14⟩ := getS2 X11 hx hZ hown (host := "") (Or.inl (ow hw 8 rfl)) Via.refl e11 c17 (g := (mkF m 19 #[.val (.int p1), .unset, .unset, .unset, .unset] [(.int (2 : Int32)), (.ref b1), (.ref b1)])) rfl (hb hby at_19)
  obtain ⟨clz18, Arz18, qz18, Sz18, Nz18, Hz18, Gz18⟩ := V11
  have hin19 : ¬ ((2 : Int32) < 0 ∨ clz18.slots.size ≤ ((2 : Int32)).toNatClampNeg) := inb_of Sz18 ⟨by decide, by decide⟩
  have c20 := Ex2.ext E1
  have c21 := c20.wr W5
  have c22 := c21.wr W11
  obtain ⟨T19, h19, X19, e19, W19, st19⟩ := stR X14 hx hZ e14 Arz18 (j := (2 : Int32)) hin19 rfl (Sto.ofV Arz18 qz18 O1 (Ins.self c22)) (g := (mkF m 22 #[.val (.int p1), .unset, .unset, .unset, .unset] [(.ref ad2), (.int (2 : Int32)), (.ref b1), (.ref b1)])) rfl rfl (hb hby at_22)
  have V19 : Arv Z h19 b1 k1 (.object "com/example/authzlint/authzlint/model/DataType") (17 : Int32) [(.ref ad0), (.ref ad1), (.ref ad2), .null, .null, .null, .null, .null, .null, .null, .null, .null, .null, .null, .null, .null, .null] .null := Arv.set Arz18 qz18 Sz18 Nz18 Hz18 Gz18 rfl W19 2 rfl (Nat.le_of_ble_eq_true rfl)
  have N19 := Fr.snoc X19 N11 g0_b1
  have c24 := S3.ext E1
  have c25 := c24.wr W5
  have c26 := c25.wr W11
  have c27 := c26.wr W19
  obtain ⟨T23, X23, e23, st23⟩ := getS2 X19 hx hZ hown (host := "") (Or.inl (ow hw 10 rfl)) Via.refl e19 c27 (g := (mkF m 25 #[.val (.int p1), .unset, .unset, .unset, .unset] [(.int (3 : Int32)), (.ref b1), (.ref b1)])) rfl (hb hby at_25)
  obtain ⟨clz28, Arz28, qz28, Sz28, Nz28, Hz28, Gz28⟩ := V19
  have hin29 : ¬ ((3 : Int32) < 0 ∨ clz28.slots.size ≤ ((3 : Int32)).toNatClampNeg) := inb_of Sz28 ⟨by decide, by decide⟩
  have c30 := Ex3.ext E1
  have c31 := c30.wr W5
  have c32 := c31.wr W11
  have c33 := c32.wr W19
  obtain ⟨T29, h29, X29, e29, W29, st29⟩ := stR X23 hx hZ e23 Arz28 (j := (3 : Int32)) hin29 rfl (Sto.ofV Arz28 qz28 O1 (Ins.self c33)) (g := (mkF m 28 #[.val (.int p1), .unset, .unset, .unset, .unset] [(.ref ad3), (.int (3 : Int32)), (.ref b1), (.ref b1)])) rfl rfl (hb hby at_28)
  have V29 : Arv Z h29 b1 k1 (.object "com/example/authzlint/authzlint/model/DataType") (17 : Int32) [(.ref ad0), (.ref ad1), (.ref ad2), (.ref ad3), .null, .null, .null, .null, .null, .null, .null, .null, .null, .null, .null, .null, .null] .null := Arv.set Arz28 qz28 Sz28 Nz28 Hz28 Gz28 rfl W29 3 rfl (Nat.le_of_ble_eq_true rfl)
  have N29 := Fr.snoc X29 N19 g0_b1
  have c35 := S4.ext E1
  have c36 := c35.wr W5
  have c37 := c36.wr W11
  have c38 := c37.wr W19
  have c39 := c38.wr W29
  obtain ⟨T34, X34, e34, st34⟩ := getS2 X29 hx hZ hown (host := "") (Or.inl (ow hw 12 rfl)) Via.refl e29 c39 (g := (mkF m 31 #[.val (.int p1), .unset, .unset, .unset, .unset] [(.int (4 : Int32)), (.ref b1), (.ref b1)])) rfl (hb hby at_31)
  obtain ⟨clz40, Arz40, qz40, Sz40, Nz40, Hz40, Gz40⟩ := V29
  have hin41 : ¬ ((4 : Int32) < 0 ∨ clz40.slots.size ≤ ((4 : Int32)).toNatClampNeg) := inb_of Sz40 ⟨by decide, by decide⟩
  have c42 := Ex4.ext E1
  have c43 := c42.wr W5
  have c44 := c43.wr W11
  have c45 := c44.wr W19
  have c46 := c45.wr W29
  obtain ⟨T41, h41, X41, e41, W41, st41⟩ := stR X34 hx hZ e34 Arz40 (j := (4 : Int32)) hin41 rfl (Sto.ofV Arz40 qz40 O1 (Ins.self c46)) (g := (mkF m 34 #[.val (.int p1), .unset, .unset, .unset, .unset] [(.ref ad4), (.int (4 : Int32)), (.ref b1), (.ref b1)])) rfl rfl (hb hby at_34)
  have V41 : Arv Z h41 b1 k1 (.object "com/example/authzlint/authzlint/model/DataType") (17 : Int32) [(.ref ad0), (.ref ad1), (.ref ad2), (.ref ad3), (.ref ad4), .null, .null, .null, .null, .null, .null, .null, .null, .null, .null, .null, .null] .null := Arv.set Arz40 qz40 Sz40 Nz40 Hz40 Gz40 rfl W41 4 rfl (Nat.le_of_ble_eq_true rfl)
  have N41 := Fr.snoc X41 N29 g0_b1
  have c48 := S5.ext E1
  have c49 := c48.wr W5
  have c50 := c49.wr W11
  have c51 := c50.wr W19
  have c52 := c51.wr W29
  have c53 := c52.wr W41
  obtain ⟨T47, X47, e47, st47⟩ := getS2 X41 hx hZ hown (host := "") (Or.inl (ow hw 14 rfl)) Via.refl e41 c53 (g := (mkF m 37 #[.val (.int p1), .unset, .unset, .unset, .unset] [(.int (5 : Int32)), (.ref b1), (.ref b1)])) rfl (hb hby at_37)
  obtain ⟨clz54, Arz54, qz54, Sz54, Nz54, Hz54, Gz54⟩ := V41
  have hin55 : ¬ ((5 : Int32) < 0 ∨ clz54.slots.size ≤ ((5 : Int32)).toNatClampNeg) := inb_of Sz54 ⟨by decide, by decide⟩
  have c56 := Ex5.ext E1
  have c57 := c56.wr W5
  have c58 := c57.wr W11
  have c59 := c58.wr W19
  have c60 := c59.wr W29
  have c61 := c60.wr W41
  obtain ⟨T55, h55, X55, e55, W55, st55⟩ := stR X47 hx hZ e47 Arz54 (j := (5 : Int32)) hin55 rfl (Sto.ofV Arz54 qz54 O1 (Ins.self c61)) (g := (mkF m 40 #[.val (.int p1), .unset, .unset, .unset, .unset] [(.ref ad5), (.int (5 : Int32)), (.ref b1), (.ref b1)])) rfl rfl (hb hby at_40)
  have V55 : Arv Z h55 b1 k1 (.object "com/example/authzlint/authzlint/model/DataType") (17 : Int32) [(.ref ad0), (.ref ad1), (.ref ad2), (.ref ad3), (.ref ad4), (.ref ad5), .null, .null, .null, .null, .null, .null, .null, .null, .null, .null, .null] .null := Arv.set Arz54 qz54 Sz54 Nz54 Hz54 Gz54 rfl W55 5 rfl (Nat.le_of_ble_eq_true rfl)
  have N55 := Fr.snoc X55 N41 g0_b1
  have c63 := S6.ext E1
  have c64 := c63.wr W5
  have c65 := c64.wr W11
  have c66 := c65.wr W19
  have c67 := c66.wr W29
  have c68 := c67.wr W41
  have c69 := c68.wr W55
  obtain ⟨T62, X62, e62, st62⟩ := getS2 X55 hx hZ hown (host := "") (Or.inl (ow hw 16 rfl)) Via.refl e55 c69 (g := (mkF m 44 #[.val (.int p1), .unset, .unset, .unset, .unset] [(.int (6 : Int32)), (.ref b1), (.ref b1)])) rfl (hb hby at_44)
  obtain ⟨clz70, Arz70, qz70, Sz70, Nz70, Hz70, Gz70⟩ := V55
  have hin71 : ¬ ((6 : Int32) < 0 ∨ clz70.slots.size ≤ ((6 : Int32)).toNatClampNeg) := inb_of Sz70 ⟨by decide, by decide⟩
  have c72 := Ex6.ext E1
  have c73 := c72.wr W5
  have c74 := c73.wr W11
  have c75 := c74.wr W19
  have c76 := c75.wr W29
  have c77 := c76.wr W41
  have c78 := c77.wr W55
  obtain ⟨T71, h71, X71, e71, W71, st71⟩ := stR X62 hx hZ e62 Arz70 (j := (6 : Int32)) hin71 rfl (Sto.ofV Arz70 qz70 O1 (Ins.self c78)) (g := (mkF m 47 #[.val (.int p1), .unset, .unset, .unset, .unset] [(.ref ad6), (.int (6 : Int32)), (.ref b1), (.ref b1)])) rfl rfl (hb hby at_47)
  have V71 : Arv Z h71 b1 k1 (.object "com/example/authzlint/authzlint/model/DataType") (17 : Int32) [(.ref ad0), (.ref ad1), (.ref ad2), (.ref ad3), (.ref ad4), (.ref ad5), (.ref ad6), .null, .null, .null, .null, .null, .null, .null, .null, .null, .null] .null := Arv.set Arz70 qz70 Sz70 Nz70 Hz70 Gz70 rfl W71 6 rfl (Nat.le_of_ble_eq_true rfl)
  have N71 := Fr.snoc X71 N55 g0_b1
  have c80 := S7.ext E1
  have c81 := c80.wr W5
  have c82 := c81.wr W11
  have c83 := c82.wr W19
  have c84 := c83.wr W29
  have c85 := c84.wr W41
  have c86 := c85.wr W55
  have c87 := c86.wr W71
  obtain ⟨T79, X79, e79, st79⟩ := getS2 X71 hx hZ hown (host := "") (Or.inl (ow hw 18 rfl)) Via.refl e71 c87 (g := (mkF m 51 #[.val (.int p1), .unset, .unset, .unset, .unset] [(.int (7 : Int32)), (.ref b1), (.ref b1)])) rfl (hb hby at_51)
  obtain ⟨clz88, Arz88, qz88, Sz88, Nz88, Hz88, Gz88⟩ := V71
  have hin89 : ¬ ((7 : Int32) < 0 ∨ clz88.slots.size ≤ ((7 : Int32)).toNatClampNeg) := inb_of Sz88 ⟨by decide, by decide⟩
  have c90 := Ex7.ext E1
  have c91 := c90.wr W5
  have c92 := c91.wr W11
  have c93 := c92.wr W19
  have c94 := c93.wr W29
  have c95 := c94.wr W41
  have c96 := c95.wr W55
  have c97 := c96.wr W71
  obtain ⟨T89, h89, X89, e89, W89, st89⟩ := stR X79 hx hZ e79 Arz88 (j := (7 : Int32)) hin89 rfl (Sto.ofV Arz88 qz88 O1 (Ins.self c97)) (g := (mkF m 54 #[.val (.int p1), .unset, .unset, .unset, .unset] [(.ref ad7), (.int (7 : Int32)), (.ref b1), (.ref b1)])) rfl rfl (hb hby at_54)
  have V89 : Arv Z h89 b1 k1 (.object "com/example/authzlint/authzlint/model/DataType") (17 : Int32) [(.ref ad0), (.ref ad1), (.ref ad2), (.ref ad3), (.ref ad4), (.ref ad5), (.ref ad6), (.ref ad7), .null, .null, .null, .null, .null, .null, .null, .null, .null] .null := Arv.set Arz88 qz88 Sz88 Nz88 Hz88 Gz88 rfl W89 7 rfl (Nat.le_of_ble_eq_true rfl)
  have N89 := Fr.snoc X89 N71 g0_b1
  have c99 := S8.ext E1
  have c100 := c99.wr W5
  have c101 := c100.wr W11
  have c102 := c101.wr W19
  have c103 := c102.wr W29
  have c104 := c103.wr W41
  have c105 := c104.wr W55
  have c106 := c105.wr W71
  have c107 := c106.wr W89
  obtain ⟨T98, X98, e98, st98⟩ := getS2 X89 hx hZ hown (host := "") (Or.inl (ow hw 20 rfl)) Via.refl e89 c107 (g := (mkF m 58 #[.val (.int p1), .unset, .unset, .unset, .unset] [(.int (8 : Int32)), (.ref b1), (.ref b1)])) rfl (hb hby at_58)
  obtain ⟨clz108, Arz108, qz108, Sz108, Nz108, Hz108, Gz108⟩ := V89
  have hin109 : ¬ ((8 : Int32) < 0 ∨ clz108.slots.size ≤ ((8 : Int32)).toNatClampNeg) := inb_of Sz108 ⟨by decide, by decide⟩
  have c110 := Ex8.ext E1
  have c111 := c110.wr W5
  have c112 := c111.wr W11
  have c113 := c112.wr W19
  have c114 := c113.wr W29
  have c115 := c114.wr W41
  have c116 := c115.wr W55
  have c117 := c116.wr W71
  have c118 := c117.wr W89
  obtain ⟨T109, h109, X109, e109, W109, st109⟩ := stR X98 hx hZ e98 Arz108 (j := (8 : Int32)) hin109 rfl (Sto.ofV Arz108 qz108 O1 (Ins.self c118)) (g := (mkF m 61 #[.val (.int p1), .unset, .unset, .unset, .unset] [(.ref ad8), (.int (8 : Int32)), (.ref b1), (.ref b1)])) rfl rfl (hb hby at_61)
  have V109 : Arv Z h109 b1 k1 (.object "com/example/authzlint/authzlint/model/DataType") (17 : Int32) [(.ref ad0), (.ref ad1), (.ref ad2), (.ref ad3), (.ref ad4), (.ref ad5), (.ref ad6), (.ref ad7), (.ref ad8), .null, .null, .null, .null, .null, .null, .null, .null] .null := Arv.set Arz108 qz108 Sz108 Nz108 Hz108 Gz108 rfl W109 8 rfl (Nat.le_of_ble_eq_true rfl)
  have N109 := Fr.snoc X109 N89 g0_b1
  have c120 := S9.ext E1
  have c121 := c120.wr W5
  have c122 := c121.wr W11
  have c123 := c122.wr W19
  have c124 := c123.wr W29
  have c125 := c124.wr W41
  have c126 := c125.wr W55
  have c127 := c126.wr W71
  have c128 := c127.wr W89
  have c129 := c128.wr W109
  obtain ⟨T119, X119, e119, st119⟩ := getS2 X109 hx hZ hown (host := "") (Or.inl (ow hw 22 rfl)) Via.refl e109 c129 (g := (mkF m 65 #[.val (.int p1), .unset, .unset, .unset, .unset] [(.int (9 : Int32)), (.ref b1), (.ref b1)])) rfl (hb hby at_65)
  obtain ⟨clz130, Arz130, qz130, Sz130, Nz130, Hz130, Gz130⟩ := V109
  have hin131 : ¬ ((9 : Int32) < 0 ∨ clz130.slots.size ≤ ((9 : Int32)).toNatClampNeg) := inb_of Sz130 ⟨by decide, by decide⟩
  have c132 := Ex9.ext E1
  have c133 := c132.wr W5
  have c134 := c133.wr W11
  have c135 := c134.wr W19
  have c136 := c135.wr W29
  have c137 := c136.wr W41
  have c138 := c137.wr W55
  have c139 := c138.wr W71
  have c140 := c139.wr W89
  have c141 := c140.wr W109
  obtain ⟨T131, h131, X131, e131, W131, st131⟩ := stR X119 hx hZ e119 Arz130 (j := (9 : Int32)) hin131 rfl (Sto.ofV Arz130 qz130 O1 (Ins.self c141)) (g := (mkF m 68 #[.val (.int p1), .unset, .unset, .unset, .unset] [(.ref ad9), (.int (9 : Int32)), (.ref b1), (.ref b1)])) rfl rfl (hb hby at_68)
  have V131 : Arv Z h131 b1 k1 (.object "com/example/authzlint/authzlint/model/DataType") (17 : Int32) [(.ref ad0), (.ref ad1), (.ref ad2), (.ref ad3), (.ref ad4), (.ref ad5), (.ref ad6), (.ref ad7), (.ref ad8), (.ref ad9), .null, .null, .null, .null, .null, .null, .null] .null := Arv.set Arz130 qz130 Sz130 Nz130 Hz130 Gz130 rfl W131 9 rfl (Nat.le_of_ble_eq_true rfl)
  have N131 := Fr.snoc X131 N109 g0_b1
  have c143 := S10.ext E1
  have c144 := c143.wr W5
  have c145 := c144.wr W11
  have c146 := c145.wr W19
  have c147 := c146.wr W29
  have c148 := c147.wr W41
  have c149 := c148.wr W55
  have c150 := c149.wr W71
  have c151 := c150.wr W89
  have c152 := c151.wr W109
  have c153 := c152.wr W131
  obtain ⟨T142, X142, e142, st142⟩ := getS2 X131 hx hZ hown (host := "") (Or.inl (ow hw 24 rfl)) Via.refl e131 c153 (g := (mkF m 72 #[.val (.int p1), .unset, .unset, .unset, .unset] [(.int (10 : Int32)), (.ref b1), (.ref b1)])) rfl (hb hby at_72)
  obtain ⟨clz154, Arz154, qz154, Sz154, Nz154, Hz154, Gz154⟩ := V131
  have hin155 : ¬ ((10 : Int32) < 0 ∨ clz154.slots.size ≤ ((10 : Int32)).toNatClampNeg) := inb_of Sz154 ⟨by decide, by decide⟩
  have c156 := Ex10.ext E1
  have c157 := c156.wr W5
  have c158 := c157.wr W11
  have c159 := c158.wr W19
  have c160 := c159.wr W29
  have c161 := c160.wr W41
  have c162 := c161.wr W55
  have c163 := c162.wr W71
  have c164 := c163.wr W89
  have c165 := c164.wr W109
  have c166 := c165.wr W131
  obtain ⟨T155, h155, X155, e155, W155, st155⟩ := stR X142 hx hZ e142 Arz154 (j := (10 : Int32)) hin155 rfl (Sto.ofV Arz154 qz154 O1 (Ins.self c166)) (g := (mkF m 75 #[.val (.int p1), .unset, .unset, .unset, .unset] [(.ref ad10), (.int (10 : Int32)), (.ref b1), (.ref b1)])) rfl rfl (hb hby at_75)
  have V155 : Arv Z h155 b1 k1 (.object "com/example/authzlint/authzlint/model/DataType") (17 : Int32) [(.ref ad0), (.ref ad1), (.ref ad2), (.ref ad3), (.ref ad4), (.ref ad5), (.ref ad6), (.ref ad7), (.ref ad8), (.ref ad9), (.ref ad10), .null, .null, .null, .null, .null, .null] .null := Arv.set Arz154 qz154 Sz154 Nz154 Hz154 Gz154 rfl W155 10 rfl (Nat.le_of_ble_eq_true rfl)
  have N155 := Fr.snoc X155 N131 g0_b1
  have c168 := S11.ext E1
  have c169 := c168.wr W5
  have c170 := c169.wr W11
  have c171 := c170.wr W19
  have c172 := c171.wr W29
  have c173 := c172.wr W41
  have c174 := c173.wr W55
  have c175 := c174.wr W71
  have c176 := c175.wr W89
  have c177 := c176.wr W109
  have c178 := c177.wr W131
  have c179 := c178.wr W155
  obtain ⟨T167, X167, e167, st167⟩ := getS2 X155 hx hZ hown (host := "") (Or.inl (ow hw 26 rfl)) Via.refl e155 c179 (g := (mkF m 79 #[.val (.int p1), .unset, .unset, .unset, .unset] [(.int (11 : Int32)), (.ref b1), (.ref b1)])) rfl (hb hby at_79)
  obtain ⟨clz180, Arz180, qz180, Sz180, Nz180, Hz180, Gz180⟩ := V155
  have hin181 : ¬ ((11 : Int32) < 0 ∨ clz180.slots.size ≤ ((11 : Int32)).toNatClampNeg) := inb_of Sz180 ⟨by decide, by decide⟩
  have c182 := Ex11.ext E1
  have c183 := c182.wr W5
  have c184 := c183.wr W11
  have c185 := c184.wr W19
  have c186 := c185.wr W29
  have c187 := c186.wr W41
  have c188 := c187.wr W55
  have c189 := c188.wr W71
  have c190 := c189.wr W89
  have c191 := c190.wr W109
  have c192 := c191.wr W131
  have c193 := c192.wr W155
  obtain ⟨T181, h181, X181, e181, W181, st181⟩ := stR X167 hx hZ e167 Arz180 (j := (11 : Int32)) hin181 rfl (Sto.ofV Arz180 qz180 O1 (Ins.self c193)) (g := (mkF m 82 #[.val (.int p1), .unset, .unset, .unset, .unset] [(.ref ad11), (.int (11 : Int32)), (.ref b1), (.ref b1)])) rfl rfl (hb hby at_82)
  have V181 : Arv Z h181 b1 k1 (.object "com/example/authzlint/authzlint/model/DataType") (17 : Int32) [(.ref ad0), (.ref ad1), (.ref ad2), (.ref ad3), (.ref ad4), (.ref ad5), (.ref ad6), (.ref ad7), (.ref ad8), (.ref ad9), (.ref ad10), (.ref ad11), .null, .null, .null, .null, .null] .null := Arv.set Arz180 qz180 Sz180 Nz180 Hz180 Gz180 rfl W181 11 rfl (Nat.le_of_ble_eq_true rfl)
  have N181 := Fr.snoc X181 N155 g0_b1
  have c195 := S12.ext E1
  have c196 := c195.wr W5
  have c197 := c196.wr W11
  have c198 := c197.wr W19
  have c199 := c198.wr W29
  have c200 := c199.wr W41
  have c201 := c200.wr W55
  have c202 := c201.wr W71
  have c203 := c202.wr W89
  have c204 := c203.wr W109
  have c205 := c204.wr W131
  have c206 := c205.wr W155
  have c207 := c206.wr W181
  obtain ⟨T194, X194, e194, st194⟩ := getS2 X181 hx hZ hown (host := "") (Or.inl (ow hw 28 rfl)) Via.refl e181 c207 (g := (mkF m 86 #[.val (.int p1), .unset, .unset, .unset, .unset] [(.int (12 : Int32)), (.ref b1), (.ref b1)])) rfl (hb hby at_86)
  obtain ⟨clz208, Arz208, qz208, Sz208, Nz208, Hz208, Gz208⟩ := V181
  have hin209 : ¬ ((12 : Int32) < 0 ∨ clz208.slots.size ≤ ((12 : Int32)).toNatClampNeg) := inb_of Sz208 ⟨by decide, by decide⟩
  have c210 := Ex12.ext E1
  have c211 := c210.wr W5
  have c212 := c211.wr W11
  have c213 := c212.wr W19
  have c214 := c213.wr W29
  have c215 := c214.wr W41
  have c216 := c215.wr W55
  have c217 := c216.wr W71
  have c218 := c217.wr W89
  have c219 := c218.wr W109
  have c220 := c219.wr W131
  have c221 := c220.wr W155
  have c222 := c221.wr W181
  obtain ⟨T209, h209, X209, e209, W209, st209⟩ := stR X194 hx hZ e194 Arz208 (j := (12 : Int32)) hin209 rfl (Sto.ofV Arz208 qz208 O1 (Ins.self c222)) (g := (mkF m 89 #[.val (.int p1), .unset, .unset, .unset, .unset] [(.ref ad12), (.int (12 : Int32)), (.ref b1), (.ref b1)])) rfl rfl (hb hby at_89)
  have V209 : Arv Z h209 b1 k1 (.object "com/example/authzlint/authzlint/model/DataType") (17 : Int32) [(.ref ad0), (.ref ad1), (.ref ad2), (.ref ad3), (.ref ad4), (.ref ad5), (.ref ad6), (.ref ad7), (.ref ad8), (.ref ad9), (.ref ad10), (.ref ad11), (.ref ad12), .null, .null, .null, .null] .null := Arv.set Arz208 qz208 Sz208 Nz208 Hz208 Gz208 rfl W209 12 rfl (Nat.le_of_ble_eq_true rfl)
  have N209 := Fr.snoc X209 N181 g0_b1
  have c224 := S13.ext E1
  have c225 := c224.wr W5
  have c226 := c225.wr W11
  have c227 := c226.wr W19
  have c228 := c227.wr W29
  have c229 := c228.wr W41
  have c230 := c229.wr W55
  have c231 := c230.wr W71
  have c232 := c231.wr W89
  have c233 := c232.wr W109
  have c234 := c233.wr W131
  have c235 := c234.wr W155
  have c236 := c235.wr W181
  have c237 := c236.wr W209
  obtain ⟨T223, X223, e223, st223⟩ := getS2 X209 hx hZ hown (host := "") (Or.inl (ow hw 30 rfl)) Via.refl e209 c237 (g := (mkF m 93 #[.val (.int p1), .unset, .unset, .unset, .unset] [(.int (13 : Int32)), (.ref b1), (.ref b1)])) rfl (hb hby at_93)
  obtain ⟨clz238, Arz238, qz238, Sz238, Nz238, Hz238, Gz238⟩ := V209
  have hin239 : ¬ ((13 : Int32) < 0 ∨ clz238.slots.size ≤ ((13 : Int32)).toNatClampNeg) := inb_of Sz238 ⟨by decide, by decide⟩
  have c240 := Ex13.ext E1
  have c241 := c240.wr W5
  have c242 := c241.wr W11
  have c243 := c242.wr W19
  have c244 := c243.wr W29
  have c245 := c244.wr W41
  have c246 := c245.wr W55
  have c247 := c246.wr W71
  have c248 := c247.wr W89
  have c249 := c248.wr W109
  have c250 := c249.wr W131
  have c251 := c250.wr W155
  have c252 := c251.wr W181
  have c253 := c252.wr W209
  obtain ⟨T239, h239, X239, e239, W239, st239⟩ := stR X223 hx hZ e223 Arz238 (j := (13 : Int32)) hin239 rfl (Sto.ofV Arz238 qz238 O1 (Ins.self c253)) (g := (mkF m 96 #[.val (.int p1), .unset, .unset, .unset, .unset] [(.ref ad13), (.int (13 : Int32)), (.ref b1), (.ref b1)])) rfl rfl (hb hby at_96)
  have V239 : Arv Z h239 b1 k1 (.object "com/example/authzlint/authzlint/model/DataType") (17 : Int32) [(.ref ad0), (.ref ad1), (.ref ad2), (.ref ad3), (.ref ad4), (.ref ad5), (.ref ad6), (.ref ad7), (.ref ad8), (.ref ad9), (.ref ad10), (.ref ad11), (.ref ad12), (.ref ad13), .null, .null, .null] .null := Arv.set Arz238 qz238 Sz238 Nz238 Hz238 Gz238 rfl W239 13 rfl (Nat.le_of_ble_eq_true rfl)
  have N239 := Fr.snoc X239 N209 g0_b1
  have c255 := S14.ext E1
  have c256 := c255.wr W5
  have c257 := c256.wr W11
  have c258 := c257.wr W19
  have c259 := c258.wr W29
  have c260 := c259.wr W41
  have c261 := c260.wr W55
  have c262 := c261.wr W71
  have c263 := c262.wr W89
  have c264 := c263.wr W109
  have c265 := c264.wr W131
  have c266 := c265.wr W155
  have c267 := c266.wr W181
  have c268 := c267.wr W209
  have c269 := c268.wr W239
  obtain ⟨T254, X254, e254, st254⟩ := getS2 X239 hx hZ hown (host := "") (Or.inl (ow hw 32 rfl)) Via.refl e239 c269 (g := (mkF m 100 #[.val (.int p1), .unset, .unset, .unset, .unset] [(.int (14 : Int32)), (.ref b1), (.ref b1)])) rfl (hb hby at_100)
  obtain ⟨clz270, Arz270, qz270, Sz270, Nz270, Hz270, Gz270⟩ := V239
  have hin271 : ¬ ((14 : Int32) < 0 ∨ clz270.slots.size ≤ ((14 : Int32)).toNatClampNeg) := inb_of Sz270 ⟨by decide, by decide⟩
  have c272 := Ex14.ext E1
  have c273 := c272.wr W5
  have c274 := c273.wr W11
  have c275 := c274.wr W19
  have c276 := c275.wr W29
  have c277 := c276.wr W41
  have c278 := c277.wr W55
  have c279 := c278.wr W71
  have c280 := c279.wr W89
  have c281 := c280.wr W109
  have c282 := c281.wr W131
  have c283 := c282.wr W155
  have c284 := c283.wr W181
  have c285 := c284.wr W209
  have c286 := c285.wr W239
  obtain ⟨T271, h271, X271, e271, W271, st271⟩ := stR X254 hx hZ e254 Arz270 (j := (14 : Int32)) hin271 rfl (Sto.ofV Arz270 qz270 O1 (Ins.self c286)) (g := (mkF m 103 #[.val (.int p1), .unset, .unset, .unset, .unset] [(.ref ad14), (.int (14 : Int32)), (.ref b1), (.ref b1)])) rfl rfl (hb hby at_103)
  have V271 : Arv Z h271 b1 k1 (.object "com/example/authzlint/authzlint/model/DataType") (17 : Int32) [(.ref ad0), (.ref ad1), (.ref ad2), (.ref ad3), (.ref ad4), (.ref ad5), (.ref ad6), (.ref ad7), (.ref ad8), (.ref ad9), (.ref ad10), (.ref ad11), (.ref ad12), (.ref ad13), (.ref ad14), .null, .null] .null := Arv.set Arz270 qz270 Sz270 Nz270 Hz270 Gz270 rfl W271 14 rfl (Nat.le_of_ble_eq_true rfl)
  have N271 := Fr.snoc X271 N239 g0_b1
  have c288 := S15.ext E1
  have c289 := c288.wr W5
  have c290 := c289.wr W11
  have c291 := c290.wr W19
  have c292 := c291.wr W29
  have c293 := c292.wr W41
  have c294 := c293.wr W55
  have c295 := c294.wr W71
  have c296 := c295.wr W89
  have c297 := c296.wr W109
  have c298 := c297.wr W131
  have c299 := c298.wr W155
  have c300 := c299.wr W181
  have c301 := c300.wr W209
  have c302 := c301.wr W239
  have c303 := c302.wr W271
  obtain ⟨T287, X287, e287, st287⟩ := getS2 X271 hx hZ hown (host := "") (Or.inl (ow hw 34 rfl)) Via.refl e271 c303 (g := (mkF m 107 #[.val (.int p1), .unset, .unset, .unset, .unset] [(.int (15 : Int32)), (.ref b1), (.ref b1)])) rfl (hb hby at_107)
  obtain ⟨clz304, Arz304, qz304, Sz304, Nz304, Hz304, Gz304⟩ := V271
  have hin305 : ¬ ((15 : Int32) < 0 ∨ clz304.slots.size ≤ ((15 : Int32)).toNatClampNeg) := inb_of Sz304 ⟨by decide, by decide⟩
  have c306 := Ex15.ext E1
  have c307 := c306.wr W5
  have c308 := c307.wr W11
  have c309 := c308.wr W19
  have c310 := c309.wr W29
  have c311 := c310.wr W41
  have c312 := c311.wr W55
  have c313 := c312.wr W71
  have c314 := c313.wr W89
  have c315 := c314.wr W109
  have c316 := c315.wr W131
  have c317 := c316.wr W155
  have c318 := c317.wr W181
  have c319 := c318.wr W209
  have c320 := c319.wr W239
  have c321 := c320.wr W271
  obtain ⟨T305, h305, X305, e305, W305, st305⟩ := stR X287 hx hZ e287 Arz304 (j := (15 : Int32)) hin305 rfl (Sto.ofV Arz304 qz304 O1 (Ins.self c321)) (g := (mkF m 110 #[.val (.int p1), .unset, .unset, .unset, .unset] [(.ref ad15), (.int (15 : Int32)), (.ref b1), (.ref b1)])) rfl rfl (hb hby at_110)
  have V305 : Arv Z h305 b1 k1 (.object "com/example/authzlint/authzlint/model/DataType") (17 : Int32) [(.ref ad0), (.ref ad1), (.ref ad2), (.ref ad3), (.ref ad4), (.ref ad5), (.ref ad6), (.ref ad7), (.ref ad8), (.ref ad9), (.ref ad10), (.ref ad11), (.ref ad12), (.ref ad13), (.ref ad14), (.ref ad15), .null] .null := Arv.set Arz304 qz304 Sz304 Nz304 Hz304 Gz304 rfl W305 15 rfl (Nat.le_of_ble_eq_true rfl)
  have N305 := Fr.snoc X305 N271 g0_b1
  have c323 := S16.ext E1
  have c324 := c323.wr W5
  have c325 := c324.wr W11
  have c326 := c325.wr W19
  have c327 := c326.wr W29
  have c328 := c327.wr W41
  have c329 := c328.wr W55
  have c330 := c329.wr W71
  have c331 := c330.wr W89
  have c332 := c331.wr W109
  have c333 := c332.wr W131
  have c334 := c333.wr W155
  have c335 := c334.wr W181
  have c336 := c335.wr W209
  have c337 := c336.wr W239
  have c338 := c337.wr W271
  have c339 := c338.wr W305
  obtain ⟨T322, X322, e322, st322⟩ := getS2 X305 hx hZ hown (host := "") (Or.inl (ow hw 36 rfl)) Via.refl e305 c339 (g := (mkF m 114 #[.val (.int p1), .unset, .unset, .unset, .unset] [(.int (16 : Int32)), (.ref b1), (.ref b1)])) rfl (hb hby at_114)
  obtain ⟨clz340, Arz340, qz340, Sz340, Nz340, Hz340, Gz340⟩ := V305
  have hin341 : ¬ ((16 : Int32) < 0 ∨ clz340.slots.size ≤ ((16 : Int32)).toNatClampNeg) := inb_of Sz340 ⟨by decide, by decide⟩
  have c342 := Ex16.ext E1
  have c343 := c342.wr W5
  have c344 := c343.wr W11
  have c345 := c344.wr W19
  have c346 := c345.wr W29
  have c347 := c346.wr W41
  have c348 := c347.wr W55
  have c349 := c348.wr W71
  have c350 := c349.wr W89
  have c351 := c350.wr W109
  have c352 := c351.wr W131
  have c353 := c352.wr W155
  have c354 := c353.wr W181
  have c355 := c354.wr W209
  have c356 := c355.wr W239
  have c357 := c356.wr W271
  have c358 := c357.wr W305
  obtain ⟨T341, h341, X341, e341, W341, st341⟩ := stR X322 hx hZ e322 Arz340 (j := (16 : Int32)) hin341 rfl (Sto.ofV Arz340 qz340 O1 (Ins.self c358)) (g := (mkF m 117 #[.val (.int p1), .unset, .unset, .unset, .unset] [(.ref ad16), (.int (16 : Int32)), (.ref b1), (.ref b1)])) rfl rfl (hb hby at_117)
  have V341 : Arv Z h341 b1 k1 (.object "com/example/authzlint/authzlint/model/DataType") (17 : Int32) [(.ref ad0), (.ref ad1), (.ref ad2), (.ref ad3), (.ref ad4), (.ref ad5), (.ref ad6), (.ref ad7), (.ref ad8), (.ref ad9), (.ref ad10), (.ref ad11), (.ref ad12), (.ref ad13), (.ref ad14), (.ref ad15), (.ref ad16)] .null := Arv.set Arz340 qz340 Sz340 Nz340 Hz340 Gz340 rfl W341 16 rfl (Nat.le_of_ble_eq_true rfl)
  have N341 := Fr.snoc X341 N305 g0_b1
  obtain ⟨clz359, Arz359, qz359, Sz359, Nz359, Hz359, Gz359⟩ := V341
  have hin360 : ¬ (((p1 &&& (2147483647 : Int32)) % (17 : Int32)) < 0 ∨ clz359.slots.size ≤ (((p1 &&& (2147483647 : Int32)) % (17 : Int32))).toNatClampNeg) := by rw [hk]; exact inb_of Sz359 ⟨(own_in17 kk hkk).1, (own_in17 kk hkk).2.1⟩
  have hat360 : clz359.slots[(((p1 &&& (2147483647 : Int32)) % (17 : Int32))).toNatClampNeg]? = some (.ref a) := Hz359.at hin360 (by rw [hk, (own_in17 kk hkk).2.2]; exact hget)
  have c361 := c39.wr W41
  have c362 := c361.wr W55
  have c363 := c362.wr W71
  have c364 := c363.wr W89
  have c365 := c364.wr W109
  have c366 := c365.wr W131
  have c367 := c366.wr W155
  have c368 := c367.wr W181
  have c369 := c368.wr W209
  have c370 := c369.wr W239
  have c371 := c370.wr W271
  have c372 := c371.wr W305
  have c373 := c372.wr W341
  have c374 := c53.wr W55
  have c375 := c374.wr W71
  have c376 := c375.wr W89
  have c377 := c376.wr W109
  have c378 := c377.wr W131
  have c379 := c378.wr W155
  have c380 := c379.wr W181
  have c381 := c380.wr W209
  have c382 := c381.wr W239
  have c383 := c382.wr W271
  have c384 := c383.wr W305
  have c385 := c384.wr W341
  have c386 := c69.wr W71
  have c387 := c386.wr W89
  have c388 := c387.wr W109
  have c389 := c388.wr W131
  have c390 := c389.wr W155
  have c391 := c390.wr W181
  have c392 := c391.wr W209
  have c393 := c392.wr W239
  have c394 := c393.wr W271
  have c395 := c394.wr W305
  have c396 := c395.wr W341
  have c398 := ExA.ext E1
  have c399 := c398.wr W5
  have c400 := c399.wr W11
  have c401 := c400.wr W19
  have c402 := c401.wr W29
  have c403 := c402.wr W41
  have c404 := c403.wr W55
  have c405 := c404.wr W71
  have c406 := c405.wr W89
  have c407 := c406.wr W109
  have c408 := c407.wr W131
  have c409 := c408.wr W155
  have c410 := c409.wr W181
  have c411 := c410.wr W209
  have c412 := c411.wr W239
  have c413 := c412.wr W271
  have c414 := c413.wr W305
  have c415 := c414.wr W341
  obtain ⟨cq397, kq397, q397a, q397b, q397c⟩ := isOf hZ e341 c415
  obtain ⟨_, _, ⟨T397, L397, k397, n397⟩, -, X397, ⟨Lc397, hQ397, l397, y397, z397⟩, st397⟩ := X341.virtualBack hx (y := nm_1) (z := nm_1) hown (mvT hZ (ow hw 39 rfl)) (mvT hZ (ow hw 40 rfl)) (notFace_of_selects (args := #[]) (mvT hZ (ow hw 42 rfl))) (mvT hZ (ow hw 42 rfl)) (mvT hZ (ow hw 41 rfl)) (by decide) (backOf (W := 0) (rm1 l Z a0 hw [] a ad4 ad5 ad6 h341 n0 (Nat.le_trans (Nat.le_trans (Nat.le_trans (Nat.le_trans (Nat.le_trans (Nat.le_trans (Nat.le_trans (Nat.le_trans (Nat.le_trans (Nat.le_trans (Nat.le_trans (Nat.le_trans (Nat.le_trans (Nat.le_trans (Nat.le_trans (Nat.le_trans (Nat.le_trans (Nat.le_trans Z0 E1.1) (Keep.of_wr W5).1) (Keep.of_wr W11).1) (Keep.of_wr W19).1) (Keep.of_wr W29).1) (Keep.of_wr W41).1) (Keep.of_wr W55).1) (Keep.of_wr W71).1) (Keep.of_wr W89).1) (Keep.of_wr W109).1) (Keep.of_wr W131).1) (Keep.of_wr W155).1) (Keep.of_wr W181).1) (Keep.of_wr W209).1) (Keep.of_wr W239).1) (Keep.of_wr W271).1) (Keep.of_wr W305).1) (Keep.of_wr W341).1) c373 c385 c396) hZ (ow hw 43 rfl) (ow hw 3 rfl) (by decide) (by decide)) q397a q397c (g := (mkF m 155 #[.val (.int p1), .val (.ref b1), .val (.int ((p1 &&& (2147483647 : Int32)) % (17 : Int32))), .val (.ref a), .val (.int (1 : Int32))] [(.ref a)])) rfl (by rw [hml]; rfl) (Steps.refl _) (argsL := []) (rest := []) (lenOf pd_0 rfl) rfl (by show 2 * 0 + _ ≤ _; exact Nat.le_of_eq rfl) (hb hby at_155) (fun _ _ => ⟨rfl, e341, (by decide : 1 + 0 ≤ _), (by decide : 17 + 0 ≤ _)⟩)
  dsimp only [Pt.U, Pt.locs, Pt.cells, Pt.slots] at X397 l397 y397 z397 st397 hQ397
  subst l397 y397 z397
  obtain ⟨rfl, N397q, e397⟩ := hQ397
  have N397 := Fr.app N341 N397q
  obtain ⟨fs, hr, hrun, hended, hW, hsame⟩ := X397.leave (v := some (.int (1 : Int32))) (fun h => by rw [Bd.returns] at h; cases h)
  refine ⟨_, _, pre0 _ ?_, hrun, hended, _, _, rfl, ?_, ⟨_, rfl⟩, hW, hsame.mono (by decide) (by decide)⟩
  · show Steps p.tables e below (s₁.setTop (mkF m 0 #[.val (.int p1), .unset, .unset, .unset, .unset] [])) _
    refine XS.bipush X0.here hx rfl (hb hby at_0) ?_
    show Steps p.tables e below (s₁.setTop (mkF m 2 #[.val (.int p1), .unset, .unset, .unset, .unset] [(.int (17 : Int32))])) _
    refine st1 _ ?_
    show Steps p.tables e below (T1.setTop (mkF m 5 #[.val (.int p1), .unset, .unset, .unset, .unset] [(.ref b1)])) _
    refine XS.dup X1.here hx rfl (hb hby at_5) rfl rfl ?_
    show Steps p.tables e below (T1.setTop (mkF m 6 #[.val (.int p1), .unset, .unset, .unset, .unset] [(.ref b1), (.ref b1)])) _
    refine XS.iconst X1.here hx rfl (hb hby at_6) ?_
    show Steps p.tables e below (T1.setTop (mkF m 7 #[.val (.int p1), .unset, .unset, .unset, .unset] [(.int (0 : Int32)), (.ref b1), (.ref b1)])) _
    refine st2 _ ?_
    show Steps p.tables e below (T2.setTop (mkF m 10 #[.val (.int p1), .unset, .unset, .unset, .unset] [(.ref ad0), (.int (0 : Int32)), (.ref b1), (.ref b1)])) _
    refine st5 _ ?_
    show Steps p.tables e below (T5.setTop (mkF m 11 #[.val (.int p1), .unset, .unset, .unset, .unset] [(.ref b1)])) _
    refine XS.dup X5.here hx rfl (hb hby at_11) rfl rfl ?_
    show Steps p.tables e below (T5.setTop (mkF m 12 #[.val (.int p1), .unset, .unset, .unset, .unset] [(.ref b1), (.ref b1)])) _
    refine XS.iconst X5.here hx rfl (hb hby at_12) ?_
    show Steps p.tables e below (T5.setTop (mkF m 13 #[.val (.int p1), .unset, .unset, .unset, .unset] [(.int (1 : Int32)), (.ref b1), (.ref b1)])) _
    refine st7 _ ?_
    show Steps p.tables e below (T7.setTop (mkF m 16 #[.val (.int p1), .unset, .unset, .unset, .unset] [(.ref ad1), (.int (1 : Int32)), (.ref b1), (.ref b1)])) _
    refine st11 _ ?_
    show Steps p.tables e below (T11.setTop (mkF m 17 #[.val (.int p1), .unset, .unset, .unset, .unset] [(.ref b1)])) _
    refine XS.dup X11.here hx rfl (hb hby at_17) rfl rfl ?_
    show Steps p.tables e below (T11.setTop (mkF m 18 #[.val (.int p1), .unset, .unset, .unset, .unset] [(.ref b1), (.ref b1)])) _
    refine XS.iconst X11.here hx rfl (hb hby at_18) ?_
    show Steps p.tables e below (T11.setTop (mkF m 19 #[.val (.int p1), .unset, .unset, .unset, .unset] [(.int (2 : Int32)), (.ref b1), (.ref b1)])) _
    refine st14 _ ?_
    show Steps p.tables e below (T14.setTop (mkF m 22 #[.val (.int p1), .unset, .unset, .unset, .unset] [(.ref ad2), (.int (2 : Int32)), (.ref b1), (.ref b1)])) _
    refine st19 _ ?_
    show Steps p.tables e below (T19.setTop (mkF m 23 #[.val (.int p1), .unset, .unset, .unset, .unset] [(.ref b1)])) _
    refine XS.dup X19.here hx rfl (hb hby at_23) rfl rfl ?_
    show Steps p.tables e below (T19.setTop (mkF m 24 #[.val (.int p1), .unset, .unset, .unset, .unset] [(.ref b1), (.ref b1)])) _
    refine XS.iconst X19.here hx rfl (hb hby at_24) ?_
    show Steps p.tables e below (T19.setTop (mkF m 25 #[.val (.int p1), .unset, .unset, .unset, .unset] [(.int (3 : Int32)), (.ref b1), (.ref b1)])) _
    refine st23 _ ?_
    show Steps p.tables e below (T23.setTop (mkF m 28 #[.val (.int p1), .unset, .unset, .unset, .unset] [(.ref ad3), (.int (3 : Int32)), (.ref b1), (.ref b1)])) _
    refine st29 _ ?_
    show Steps p.tables e below (T29.setTop (mkF m 29 #[.val (.int p1), .unset, .unset, .unset, .unset] [(.ref b1)])) _
    refine XS.dup X29.here hx rfl (hb hby at_29) rfl rfl ?_
    show Steps p.tables e below (T29.setTop (mkF m 30 #[.val (.int p1), .unset, .unset, .unset, .unset] [(.ref b1), (.ref b1)])) _
    refine XS.iconst X29.here hx rfl (hb hby at_30) ?_
    show Steps p.tables e below (T29.setTop (mkF m 31 #[.val (.int p1), .unset, .unset, .unset, .unset] [(.int (4 : Int32)), (.ref b1), (.ref b1)])) _
    refine st34 _ ?_
    show Steps p.tables e below (T34.setTop (mkF m 34 #[.val (.int p1), .unset, .unset, .unset, .unset] [(.ref ad4), (.int (4 : Int32)), (.ref b1), (.ref b1)])) _
    refine st41 _ ?_
    show Steps p.tables e below (T41.setTop (mkF m 35 #[.val (.int p1), .unset, .unset, .unset, .unset] [(.ref b1)])) _
    refine XS.dup X41.here hx rfl (hb hby at_35) rfl rfl ?_
    show Steps p.tables e below (T41.setTop (mkF m 36 #[.val (.int p1), .unset, .unset, .unset, .unset] [(.ref b1), (.ref b1)])) _
    refine XS.iconst X41.here hx rfl (hb hby at_36) ?_
    show Steps p.tables e below (T41.setTop (mkF m 37 #[.val (.int p1), .unset, .unset, .unset, .unset] [(.int (5 : Int32)), (.ref b1), (.ref b1)])) _
    refine st47 _ ?_
    show Steps p.tables e below (T47.setTop (mkF m 40 #[.val (.int p1), .unset, .unset, .unset, .unset] [(.ref ad5), (.int (5 : Int32)), (.ref b1), (.ref b1)])) _
    refine st55 _ ?_
    show Steps p.tables e below (T55.setTop (mkF m 41 #[.val (.int p1), .unset, .unset, .unset, .unset] [(.ref b1)])) _
    refine XS.dup X55.here hx rfl (hb hby at_41) rfl rfl ?_
    show Steps p.tables e below (T55.setTop (mkF m 42 #[.val (.int p1), .unset, .unset, .unset, .unset] [(.ref b1), (.ref b1)])) _
    refine XS.bipush X55.here hx rfl (hb hby at_42) ?_
    show Steps p.tables e below (T55.setTop (mkF m 44 #[.val (.int p1), .unset, .unset, .unset, .unset] [(.int (6 : Int32)), (.ref b1), (.ref b1)])) _
    refine st62 _ ?_
    show Steps p.tables e below (T62.setTop (mkF m 47 #[.val (.int p1), .unset, .unset, .unset, .unset] [(.ref ad6), (.int (6 : Int32)), (.ref b1), (.ref b1)])) _
    refine st71 _ ?_
    show Steps p.tables e below (T71.setTop (mkF m 48 #[.val (.int p1), .unset, .unset, .unset, .unset] [(.ref b1)])) _
    refine XS.dup X71.here hx rfl (hb hby at_48) rfl rfl ?_
    show Steps p.tables e below (T71.setTop (mkF m 49 #[.val (.int p1), .unset, .unset, .unset, .unset] [(.ref b1), (.ref b1)])) _
    refine XS.bipush X71.here hx rfl (hb hby at_49) ?_
    show Steps p.tables e below (T71.setTop (mkF m 51 #[.val (.int p1), .unset, .unset, .unset, .unset] [(.int (7 : Int32)), (.ref b1), (.ref b1)])) _
    refine st79 _ ?_
    show Steps p.tables e below (T79.setTop (mkF m 54 #[.val (.int p1), .unset, .unset, .unset, .unset] [(.ref ad7), (.int (7 : Int32)), (.ref b1), (.ref b1)])) _
    refine st89 _ ?_
    show Steps p.tables e below (T89.setTop (mkF m 55 #[.val (.int p1), .unset, .unset, .unset, .unset] [(.ref b1)])) _
    refine XS.dup X89.here hx rfl (hb hby at_55) rfl rfl ?_
    show Steps p.tables e below (T89.setTop (mkF m 56 #[.val (.int p1), .unset, .unset, .unset, .unset] [(.ref b1), (.ref b1)])) _
    refine XS.bipush X89.here hx rfl (hb hby at_56) ?_
    show Steps p.tables e below (T89.setTop (mkF m 58 #[.val (.int p1), .unset, .unset, .unset, .unset] [(.int (8 : Int32)), (.ref b1), (.ref b1)])) _
    refine st98 _ ?_
    show Steps p.tables e below (T98.setTop (mkF m 61 #[.val (.int p1), .unset, .unset, .unset, .unset] [(.ref ad8), (.int (8 : Int32)), (.ref b1), (.ref b1)])) _
    refine st109 _ ?_
    show Steps p.tables e below (T109.setTop (mkF m 62 #[.val (.int p1), .unset, .unset, .unset, .unset] [(.ref b1)])) _
    refine XS.dup X109.here hx rfl (hb hby at_62) rfl rfl ?_
    show Steps p.tables e below (T109.setTop (mkF m 63 #[.val (.int p1), .unset, .unset, .unset, .unset] [(.ref b1), (.ref b1)])) _
    refine XS.bipush X109.here hx rfl (hb hby at_63) ?_
    show Steps p.tables e below (T109.setTop (mkF m 65 #[.val (.int p1), .unset, .unset, .unset, .unset] [(.int (9 : Int32)), (.ref b1), (.ref b1)])) _
    refine st119 _ ?_
    show Steps p.tables e below (T119.setTop (mkF m 68 #[.val (.int p1), .unset, .unset, .unset, .unset] [(.ref ad9), (.int (9 : Int32)), (.ref b1), (.ref b1)])) _
    refine st131 _ ?_
    show Steps p.tables e below (T131.setTop (mkF m 69 #[.val (.int p1), .unset, .unset, .unset, .unset] [(.ref b1)])) _
    refine XS.dup X131.here hx rfl (hb hby at_69) rfl rfl ?_
    show Steps p.tables e below (T131.setTop (mkF m 70 #[.val (.int p1), .unset, .unset, .unset, .unset] [(.ref b1), (.ref b1)])) _
    refine XS.bipush X131.here hx rfl (hb hby at_70) ?_
    show Steps p.tables e below (T131.setTop (mkF m 72 #[.val (.int p1), .unset, .unset, .unset, .unset] [(.int (10 : Int32)), (.ref b1), (.ref b1)])) _
    refine st142 _ ?_
    show Steps p.tables e below (T142.setTop (mkF m 75 #[.val (.int p1), .unset, .unset, .unset, .unset] [(.ref ad10), (.int (10 : Int32)), (.ref b1), (.ref b1)])) _
    refine st155 _ ?_
    show Steps p.tables e below (T155.setTop (mkF m 76 #[.val (.int p1), .unset, .unset, .unset, .unset] [(.ref b1)])) _
    refine XS.dup X155.here hx rfl (hb hby at_76) rfl rfl ?_
    show Steps p.tables e below (T155.setTop (mkF m 77 #[.val (.int p1), .unset, .unset, .unset, .unset] [(.ref b1), (.ref b1)])) _
    refine XS.bipush X155.here hx rfl (hb hby at_77) ?_
    show Steps p.tables e below (T155.setTop (mkF m 79 #[.val (.int p1), .unset, .unset, .unset, .unset] [(.int (11 : Int32)), (.ref b1), (.ref b1)])) _
    refine st167 _ ?_
    show Steps p.tables e below (T167.setTop (mkF m 82 #[.val (.int p1), .unset, .unset, .unset, .unset] [(.ref ad11), (.int (11 : Int32)), (.ref b1), (.ref b1)])) _
    refine st181 _ ?_
    show Steps p.tables e below (T181.setTop (mkF m 83 #[.val (.int p1), .unset, .unset, .unset, .unset] [(.ref b1)])) _
    refine XS.dup X181.here hx rfl (hb hby at_83) rfl rfl ?_
    show Steps p.tables e below (T181.setTop (mkF m 84 #[.val (.int p1), .unset, .unset, .unset, .unset] [(.ref b1), (.ref b1)])) _
    refine XS.bipush X181.here hx rfl (hb hby at_84) ?_
    show Steps p.tables e below (T181.setTop (mkF m 86 #[.val (.int p1), .unset, .unset, .unset, .unset] [(.int (12 : Int32)), (.ref b1), (.ref b1)])) _
    refine st194 _ ?_
    show Steps p.tables e below (T194.setTop (mkF m 89 #[.val (.int p1), .unset, .unset, .unset, .unset] [(.ref ad12), (.int (12 : Int32)), (.ref b1), (.ref b1)])) _
    refine st209 _ ?_
    show Steps p.tables e below (T209.setTop (mkF m 90 #[.val (.int p1), .unset, .unset, .unset, .unset] [(.ref b1)])) _
    refine XS.dup X209.here hx rfl (hb hby at_90) rfl rfl ?_
    show Steps p.tables e below (T209.setTop (mkF m 91 #[.val (.int p1), .unset, .unset, .unset, .unset] [(.ref b1), (.ref b1)])) _
    refine XS.bipush X209.here hx rfl (hb hby at_91) ?_
    show Steps p.tables e below (T209.setTop (mkF m 93 #[.val (.int p1), .unset, .unset, .unset, .unset] [(.int (13 : Int32)), (.ref b1), (.ref b1)])) _
    refine st223 _ ?_
    show Steps p.tables e below (T223.setTop (mkF m 96 #[.val (.int p1), .unset, .unset, .unset, .unset] [(.ref ad13), (.int (13 : Int32)), (.ref b1), (.ref b1)])) _
    refine st239 _ ?_
    show Steps p.tables e below (T239.setTop (mkF m 97 #[.val (.int p1), .unset, .unset, .unset, .unset] [(.ref b1)])) _
    refine XS.dup X239.here hx rfl (hb hby at_97) rfl rfl ?_
    show Steps p.tables e below (T239.setTop (mkF m 98 #[.val (.int p1), .unset, .unset, .unset, .unset] [(.ref b1), (.ref b1)])) _
    refine XS.bipush X239.here hx rfl (hb hby at_98) ?_
    show Steps p.tables e below (T239.setTop (mkF m 100 #[.val (.int p1), .unset, .unset, .unset, .unset] [(.int (14 : Int32)), (.ref b1), (.ref b1)])) _
    refine st254 _ ?_
    show Steps p.tables e below (T254.setTop (mkF m 103 #[.val (.int p1), .unset, .unset, .unset, .unset] [(.ref ad14), (.int (14 : Int32)), (.ref b1), (.ref b1)])) _
    refine st271 _ ?_
    show Steps p.tables e below (T271.setTop (mkF m 104 #[.val (.int p1), .unset, .unset, .unset, .unset] [(.ref b1)])) _
    refine XS.dup X271.here hx rfl (hb hby at_104) rfl rfl ?_
    show Steps p.tables e below (T271.setTop (mkF m 105 #[.val (.int p1), .unset, .unset, .unset, .unset] [(.ref b1), (.ref b1)])) _
    refine XS.bipush X271.here hx rfl (hb hby at_105) ?_
    show Steps p.tables e below (T271.setTop (mkF m 107 #[.val (.int p1), .unset, .unset, .unset, .unset] [(.int (15 : Int32)), (.ref b1), (.ref b1)])) _
    refine st287 _ ?_
    show Steps p.tables e below (T287.setTop (mkF m 110 #[.val (.int p1), .unset, .unset, .unset, .unset] [(.ref ad15), (.int (15 : Int32)), (.ref b1), (.ref b1)])) _
    refine st305 _ ?_
    show Steps p.tables e below (T305.setTop (mkF m 111 #[.val (.int p1), .unset, .unset, .unset, .unset] [(.ref b1)])) _
    refine XS.dup X305.here hx rfl (hb hby at_111) rfl rfl ?_
    show Steps p.tables e below (T305.setTop (mkF m 112 #[.val (.int p1), .unset, .unset, .unset, .unset] [(.ref b1), (.ref b1)])) _
    refine XS.bipush X305.here hx rfl (hb hby at_112) ?_
    show Steps p.tables e below (T305.setTop (mkF m 114 #[.val (.int p1), .unset, .unset, .unset, .unset] [(.int (16 : Int32)), (.ref b1), (.ref b1)])) _
    refine st322 _ ?_
    show Steps p.tables e below (T322.setTop (mkF m 117 #[.val (.int p1), .unset, .unset, .unset, .unset] [(.ref ad16), (.int (16 : Int32)), (.ref b1), (.ref b1)])) _
    refine st341 _ ?_
    show Steps p.tables e below (T341.setTop (mkF m 118 #[.val (.int p1), .unset, .unset, .unset, .unset] [(.ref b1)])) _
    refine XS.astoreN X341.here hx rfl (hb hby at_118) rfl rfl (l' := #[.val (.int p1), .val (.ref b1), .unset, .unset, .unset]) rfl ?_
    show Steps p.tables e below (T341.setTop (mkF m 119 #[.val (.int p1), .val (.ref b1), .unset, .unset, .unset] [])) _
    refine XS.iloadN X341.here hx rfl (hb hby at_119) rfl ?_
    show Steps p.tables e below (T341.setTop (mkF m 120 #[.val (.int p1), .val (.ref b1), .unset, .unset, .unset] [(.int p1)])) _
    refine X341.ldcInt hx hown (mvT hZ (ow hw 38 rfl)) (g := (mkF m 120 #[.val (.int p1), .val (.ref b1), .unset, .unset, .unset] [(.int p1)])) rfl (hb hby at_120) _ ?_
    show Steps p.tables e below (T341.setTop (mkF m 122 #[.val (.int p1), .val (.ref b1), .unset, .unset, .unset] [(.int (2147483647 : Int32)), (.int p1)])) _
    refine XS.iand X341.here hx rfl (hb hby at_122) rfl ?_
    show Steps p.tables e below (T341.setTop (mkF m 123 #[.val (.int p1), .val (.ref b1), .unset, .unset, .unset] [(.int (p1 &&& (2147483647 : Int32)))])) _
    refine XS.bipush X341.here hx rfl (hb hby at_123) ?_
    show Steps p.tables e below (T341.setTop (mkF m 125 #[.val (.int p1), .val (.ref b1), .unset, .unset, .unset] [(.int (17 : Int32)), (.int (p1 &&& (2147483647 : Int32)))])) _
    refine iremM X341 hx (g := (mkF m 125 #[.val (.int p1), .val (.ref b1), .unset, .unset, .unset] [(.int (17 : Int32)), (.int (p1 &&& (2147483647 : Int32)))])) rfl (hb hby at_125) rfl (by decide) ?_
    show Steps p.tables e below (T341.setTop (mkF m 126 #[.val (.int p1), .val (.ref b1), .unset, .unset, .unset] [(.int ((p1 &&& (2147483647 : Int32)) % (17 : Int32)))])) _
    refine XS.istoreN X341.here hx rfl (hb hby at_126) rfl (l' := #[.val (.int p1), .val (.ref b1), .val (.int ((p1 &&& (2147483647 : Int32)) % (17 : Int32))), .unset, .unset]) rfl ?_
    show Steps p.tables e below (T341.setTop (mkF m 127 #[.val (.int p1), .val (.ref b1), .val (.int ((p1 &&& (2147483647 : Int32)) % (17 : Int32))), .unset, .unset] [])) _
    refine XS.aloadN X341.here hx rfl (hb hby at_127) rfl rfl ?_
    show Steps p.tables e below (T341.setTop (mkF m 128 #[.val (.int p1), .val (.ref b1), .val (.int ((p1 &&& (2147483647 : Int32)) % (17 : Int32))), .unset, .unset] [(.ref b1)])) _
    refine XS.iloadN X341.here hx rfl (hb hby at_128) rfl ?_
    show Steps p.tables e below (T341.setTop (mkF m 129 #[.val (.int p1), .val (.ref b1), .val (.int ((p1 &&& (2147483647 : Int32)) % (17 : Int32))), .unset, .unset] [(.int ((p1 &&& (2147483647 : Int32)) % (17 : Int32))), (.ref b1)])) _
    refine X341.aaload hx (j := ((p1 &&& (2147483647 : Int32)) % (17 : Int32))) (v := (.ref a)) (by rw [e341]; exact Arz359.1) (State.isArrayOf_alike hZ.alike Arz359.2.1) rfl Arz359.2.2 hin360 hat360 (g := (mkF m 129 #[.val (.int p1), .val (.ref b1), .val (.int ((p1 &&& (2147483647 : Int32)) % (17 : Int32))), .unset, .unset] [(.int ((p1 &&& (2147483647 : Int32)) % (17 : Int32))), (.ref b1)])) rfl rfl (hb hby at_129) _ ?_
    show Steps p.tables e below (T341.setTop (mkF m 130 #[.val (.int p1), .val (.ref b1), .val (.int ((p1 &&& (2147483647 : Int32)) % (17 : Int32))), .unset, .unset] [(.ref a)])) _
    refine XS.astoreN X341.here hx rfl (hb hby at_130) rfl rfl (l' := #[.val (.int p1), .val (.ref b1), .val (.int ((p1 &&& (2147483647 : Int32)) % (17 : Int32))), .val (.ref a), .unset]) rfl ?_
    show Steps p.tables e below (T341.setTop (mkF m 131 #[.val (.int p1), .val (.ref b1), .val (.int ((p1 &&& (2147483647 : Int32)) % (17 : Int32))), .val (.ref a), .unset] [])) _
    refine XS.iloadN X341.here hx rfl (hb hby at_131) rfl ?_
    show Steps p.tables e below (T341.setTop (mkF m 132 #[.val (.int p1), .val (.ref b1), .val (.int ((p1 &&& (2147483647 : Int32)) % (17 : Int32))), .val (.ref a), .unset] [(.int ((p1 &&& (2147483647 : Int32)) % (17 : Int32)))])) _
    refine XS.iconst X341.here hx rfl (hb hby at_132) ?_
    show Steps p.tables e below (T341.setTop (mkF m 133 #[.val (.int p1), .val (.ref b1), .val (.int ((p1 &&& (2147483647 : Int32)) % (17 : Int32))), .val (.ref a), .unset] [(.int (4 : Int32)), (.int ((p1 &&& (2147483647 : Int32)) % (17 : Int32)))])) _
    refine XS.icmpYes X341.here hx rfl (pc0 := 133) (pc' := 147) rfl (hb hby at_133) rfl (teq hc133).1 (by decide) (by decide) ?_
    show Steps p.tables e below (T341.setTop (mkF m 147 #[.val (.int p1), .val (.ref b1), .val (.int ((p1 &&& (2147483647 : Int32)) % (17 : Int32))), .val (.ref a), .unset] [])) _
    refine XS.iconst X341.here hx rfl (hb hby at_147) ?_
    show Steps p.tables e below (T341.setTop (mkF m 148 #[.val (.int p1), .val (.ref b1), .val (.int ((p1 &&& (2147483647 : Int32)) % (17 : Int32))), .val (.ref a), .unset] [(.int (1 : Int32))])) _
    refine XS.goto X341.here hx rfl (pc0 := 148) (pc' := 152) rfl (hb hby at_148) (by decide) (by decide) ?_
    show Steps p.tables e below (T341.setTop (mkF m 152 #[.val (.int p1), .val (.ref b1), .val (.int ((p1 &&& (2147483647 : Int32)) % (17 : Int32))), .val (.ref a), .unset] [(.int (1 : Int32))])) _
    refine XS.istore X341.here hx rfl (hb hby at_152) rfl (l' := #[.val (.int p1), .val (.ref b1), .val (.int ((p1 &&& (2147483647 : Int32)) % (17 : Int32))), .val (.ref a), .val (.int (1 : Int32))]) rfl ?_
    show Steps p.tables e below (T341.setTop (mkF m 154 #[.val (.int p1), .val (.ref b1), .val (.int ((p1 &&& (2147483647 : Int32)) % (17 : Int32))), .val (.ref a), .val (.int (1 : Int32))] [])) _
    refine XS.aloadN X341.here hx rfl (hb hby at_154) rfl rfl ?_
    show Steps p.tables e below (T341.setTop (mkF m 155 #[.val (.int p1), .val (.ref b1), .val (.int ((p1 &&& (2147483647 : Int32)) % (17 : Int32))), .val (.ref a), .val (.int (1 : Int32))] [(.ref a)])) _
    refine st397.trans ?_
    show Steps p.tables e below (T397.setTop (mkF m 158 #[.val (.int p1), .val (.ref b1), .val (.int ((p1 &&& (2147483647 : Int32)) % (17 : Int32))), .val (.ref a), .val (.int (1 : Int32))] [(.int (if a = ad4 ∨ a = ad5 ∨ a = ad6 then (1 : Int32) else 0))])) _
    refine XS.iload X397.here hx rfl (hb hby at_158) rfl ?_
    show Steps p.tables e below (T397.setTop (mkF m 160 #[.val (.int p1), .val (.ref b1), .val (.int ((p1 &&& (2147483647 : Int32)) % (17 : Int32))), .val (.ref a), .val (.int (1 : Int32))] [(.int (1 : Int32)), (.int (if a = ad4 ∨ a = ad5 ∨ a = ad6 then (1 : Int32) else 0))])) _
    refine XS.icmpNo X397.here hx rfl (hb hby at_160) rfl (teq hc160).2 ?_
    show Steps p.tables e below (T397.setTop (mkF m 163 #[.val (.int p1), .val (.ref b1), .val (.int ((p1 &&& (2147483647 : Int32)) % (17 : Int32))), .val (.ref a), .val (.int (1 : Int32))] [])) _
    refine XS.iconst X397.here hx rfl (hb hby at_163) ?_
    show Steps p.tables e below (T397.setTop (mkF m 164 #[.val (.int p1), .val (.ref b1), .val (.int ((p1 &&& (2147483647 : Int32)) % (17 : Int32))), .val (.ref a), .val (.int (1 : Int32))] [(.int (1 : Int32))])) _
    refine XS.goto X397.here hx rfl (pc0 := 164) (pc' := 168) rfl (hb hby at_164) (by decide) (by decide) ?_
    show Steps p.tables e below (T397.setTop (mkF m 168 #[.val (.int p1), .val (.ref b1), .val (.int ((p1 &&& (2147483647 : Int32)) % (17 : Int32))), .val (.ref a), .val (.int (1 : Int32))] [(.int (1 : Int32))])) _
    exact retN X397 hx (t := .boolean) Bd.returns (by simp) (hb hby at_168) hr
  · show QF (some (.int (1 : Int32))) h0 n0 _ T397.heap _
    rw [e397]
    exact ⟨rfl, N397⟩
set_option maxRecDepth 65536 in
set_option maxHeartbeats 40000000 in
theorem rm0_ft (l : Launch) (Z : State) (a0 : Array Value) (hw : ∀ d ∈ tables_1, d.before a0 Z = true) (ws : List Jvm.Cond) (p1 : Int32) (kk : Nat) (a : Addr) (ad0 : Addr) (ad1 : Addr) (ad2 : Addr) (ad3 : Addr) (ad4 : Addr) (ad5 : Addr) (ad6 : Addr) (ad7 : Addr) (ad8 : Addr) (ad9 : Addr) (ad10 : Addr) (ad11 : Addr) (ad12 : Addr) (ad13 : Addr) (ad14 : Addr) (ad15 : Addr) (ad16 : Addr) (h0 : Heap) (n0 : Nat) (Z0 : n0 ≤ h0.size) (S0 : Sta Z h0 "com/example/authzlint/authzlint/model/DataType" "STRING" "Lcom/example/authzlint/authzlint/model/DataType;" (.ref ad0)) (S1 : Sta Z h0 "com/example/authzlint/authzlint/model/DataType" "BOOLEAN" "Lcom/example/authzlint/authzlint/model/DataType;" (.ref ad1)) (S2 : Sta Z h0 "com/example/authzlint/authzlint/model/DataType" "INTEGER" "Lcom/example/authzlint/authzlint/model/DataType;" (.ref ad2)) (S3 : Sta Z h0 "com/example/authzlint/authzlint/model/DataType" "DOUBLE" "Lcom/example/authzlint/authzlint/model/DataType;" (.ref ad3)) (S4 : Sta Z h0 "com/example/authzlint/authzlint/model/DataType" "TIME" "Lcom/example/authzlint/authzlint/model/DataType;" (.ref ad4)) (S5 : Sta Z h0 "com/example/authzlint/authzlint/model/DataType" "DATE" "Lcom/example/authzlint/authzlint/model/DataType;" (.ref ad5)) (S6 : Sta Z h0 "com/example/authzlint/authzlint/model/DataType" "DATE_TIME" "Lcom/example/authzlint/authzlint/model/DataType;" (.ref ad6)) (S7 : Sta Z h0 "com/example/authzlint/authzlint/model/DataType" "ANY_URI" "Lcom/example/authzlint/authzlint/model/DataType;" (.ref ad7)) (S8 : Sta Z h0 "com/example/authzlint/authzlint/model/DataType" "HEX_BINARY" "Lcom/example/authzlint/authzlint/model/DataType;" (.ref ad8)) (S9 : Sta Z h0 "com/example/authzlint/authzlint/model/DataType" "BASE64_BINARY" "Lcom/example/authzlint/authzlint/model/DataType;" (.ref ad9)) (S10 : Sta Z h0 "com/example/authzlint/authzlint/model/DataType" "DAY_TIME_DURATION" "Lcom/example/authzlint/authzlint/model/DataType;" (.ref ad10)) (S11 : Sta Z h0 "com/example/authzlint/authzlint/model/DataType" "YEAR_MONTH_DURATION" "Lcom/example/authzlint/authzlint/model/DataType;" (.ref ad11)) (S12 : Sta Z h0 "com/example/authzlint/authzlint/model/DataType" "X500_NAME" "Lcom/example/authzlint/authzlint/model/DataType;" (.ref ad12)) (S13 : Sta Z h0 "com/example/authzlint/authzlint/model/DataType" "RFC822_NAME" "Lcom/example/authzlint/authzlint/model/DataType;" (.ref ad13)) (S14 : Sta Z h0 "com/example/authzlint/authzlint/model/DataType" "IP_ADDRESS" "Lcom/example/authzlint/authzlint/model/DataType;" (.ref ad14)) (S15 : Sta Z h0 "com/example/authzlint/authzlint/model/DataType" "DNS_NAME" "Lcom/example/authzlint/authzlint/model/DataType;" (.ref ad15)) (S16 : Sta Z h0 "com/example/authzlint/authzlint/model/DataType" "XPATH_EXPRESSION" "Lcom/example/authzlint/authzlint/model/DataType;" (.ref ad16)) (Ex0 : Exa Z h0 ad0 "com/example/authzlint/authzlint/model/DataType") (Ex1 : Exa Z h0 ad1 "com/example/authzlint/authzlint/model/DataType") (Ex2 : Exa Z h0 ad2 "com/example/authzlint/authzlint/model/DataType") (Ex3 : Exa Z h0 ad3 "com/example/authzlint/authzlint/model/DataType") (Ex4 : Exa Z h0 ad4 "com/example/authzlint/authzlint/model/DataType") (Ex5 : Exa Z h0 ad5 "com/example/authzlint/authzlint/model/DataType") (Ex6 : Exa Z h0 ad6 "com/example/authzlint/authzlint/model/DataType") (Ex7 : Exa Z h0 ad7 "com/example/authzlint/authzlint/model/DataType") (Ex8 : Exa Z h0 ad8 "com/example/authzlint/authzlint/model/DataType") (Ex9 : Exa Z h0 ad9 "com/example/authzlint/authzlint/model/DataType") (Ex10 : Exa Z h0 ad10 "com/example/authzlint/authzlint/model/DataType") (Ex11 : Exa Z h0 ad11 "com/example/authzlint/authzlint/model/DataType") (Ex12 : Exa Z h0 ad12 "com/example/authzlint/authzlint/model/DataType") (Ex13 : Exa Z h0 ad13 "com/example/authzlint/authzlint/model/DataType") (Ex14 : Exa Z h0 ad14 "com/example/authzlint/authzlint/model/DataType") (Ex15 : Exa Z h0 ad15 "com/example/authzlint/authzlint/model/DataType") (Ex16 : Exa Z h0 ad16 "com/example/authzlint/authzlint/model/DataType") (ExA : Exa Z h0 a "com/example/authzlint/authzlint/model/DataType") (hkk : kk < 17) (hk : ((p1 &&& (2147483647 : Int32)) % (17 : Int32)) = Int32.ofNat kk) (hget : ([(.ref ad0), (.ref ad1), (.ref ad2), (.ref ad3), (.ref ad4), (.ref ad5), (.ref ad6), (.ref ad7), (.ref ad8), (.ref ad9), (.ref ad10), (.ref ad11), (.ref ad12), (.ref ad13), (.ref ad14), (.ref ad15), (.ref ad16)] : List Value).getD kk .null = (.ref a)) (hc133 : ¬ (((p1 &&& (2147483647 : Int32)) % (17 : Int32)) = (4 : Int32))) (hc138 : ((p1 &&& (2147483647 : Int32)) % (17 : Int32)) = (5 : Int32)) (hc160 : (if a = ad4 ∨ a = ad5 ∨ a = ad6 then (1 : Int32) else 0) = (1 : Int32)) :
    MetFree l x (head1 (Jvm.Cond.code x code maxLocals ret :: ws) room_1) (fun aa U => aa = #[(.int p1)] ∧ Z.Warmed39 U.vm ∧ U.heap = h0) (fun _ _ _ _ _ => True) (fun _ U o U' => ∃ v L, o = .returned v ∧ QF (some (.int (1 : Int32))) h0 n0 v U'.heap L ∧ FrameEnd U o U' L room_1.cells room_1.slots) := by
  refine MetFree.of_bodySF (plainFor_of_name pn_com_example_authzlint_authzlint_model_DataTypeHasTimeZonesPinLaw) hisR ?_
  intro p e s m args below meth c s₁ Bd hml0 hP hK
  obtain ⟨rfl, hZ, hh⟩ := hP
  have hx := Bd.exec
  have hby := Bd.bytes
  have hml : c.maxLocals = 5 := hml0
  have hown : s.vm.findClass "com/example/authzlint/authzlint/model/DataTypeHasTimeZonesPinLaw" = some m.cls := findClass_of_methodNamed Bd.named
  have hnm := (name_of_methodNamed Bd.named Bd.method).1
  have X0 : Stand p l e room_1 s m #[(.int p1)] below meth c s₁ [] 0 0 := Stand.of_body Bd
  have e0 : s₁.heap = h0 := by rw [← hh, Bd.state]; rfl
  have N0 := Fr.nil n0
  have pre0 : ∀ t, Steps p.tables e below (s₁.setTop (mkF m 0 #[.val (.int p1), .unset, .unset, .unset, .unset] [])) t → Steps p.tables e below (s₁.setTop (entryFrame m #[(.int p1)] maxLocals)) t := fun t k => castTop (ef_0 m p1) k
  obtain ⟨T1, h1, k1, X1, e1, E1, A1, O1, st1⟩ := newR X0 hx hZ hown (ow hw 0 rfl) (ow hw 1 rfl) e0 (g := (mkF m 2 #[.val (.int p1), .unset, .unset, .unset, .unset] [(.int (17 : Int32))])) rfl (hb hby at_2) rfl (by decide) (cap := 17) (by decide) (by decide) (by decide) (by decide)
  obtain ⟨b1, g_b1⟩ : ∃ z, z = h0.size := ⟨_, rfl⟩
  rw [← g_b1] at A1 st1
  have g0_b1 : n0 ≤ b1 := Nat.le_trans Z0 (Nat.le_of_eq g_b1.symm)
  have sz_b1 : h0.size ≤ b1 := Nat.le_trans (Nat.le_refl _) (Nat.le_of_eq g_b1.symm)
  have ne_ad0_b1 : ad0 ≠ b1 := Nat.ne_of_lt (Nat.lt_of_lt_of_le Ex0.lt (Nat.le_of_eq g_b1.symm))
  have ne_ad1_b1 : ad1 ≠ b1 := Nat.ne_of_lt (Nat.lt_of_lt_of_le Ex1.lt (Nat.le_of_eq g_b1.symm))
  have ne_ad2_b1 : ad2 ≠ b1 := Nat.ne_of_lt (Nat.lt_of_lt_of_le Ex2.lt (Nat.le_of_eq g_b1.symm))
  have ne_ad3_b1 : ad3 ≠ b1 := Nat.ne_of_lt (Nat.lt_of_lt_of_le Ex3.lt (Nat.le_of_eq g_b1.symm))
  have ne_ad4_b1 : ad4 ≠ b1 := Nat.ne_of_lt (Nat.lt_of_lt_of_le Ex4.lt (Nat.le_of_eq g_b1.symm))
  have ne_ad5_b1 : ad5 ≠ b1 := Nat.ne_of_lt (Nat.lt_of_lt_of_le Ex5.lt (Nat.le_of_eq g_b1.symm))
  have ne_ad6_b1 : ad6 ≠ b1 := Nat.ne_of_lt (Nat.lt_of_lt_of_le Ex6.lt (Nat.le_of_eq g_b1.symm))
  have ne_ad7_b1 : ad7 ≠ b1 := Nat.ne_of_lt (Nat.lt_of_lt_of_le Ex7.lt (Nat.le_of_eq g_b1.symm))
  have ne_ad8_b1 : ad8 ≠ b1 := Nat.ne_of_lt (Nat.lt_of_lt_of_le Ex8.lt (Nat.le_of_eq g_b1.symm))
  have ne_ad9_b1 : ad9 ≠ b1 := Nat.ne_of_lt (Nat.lt_of_lt_of_le Ex9.lt (Nat.le_of_eq g_b1.symm))
  have ne_ad10_b1 : ad10 ≠ b1 := Nat.ne_of_lt (Nat.lt_of_lt_of_le Ex10.lt (Nat.le_of_eq g_b1.symm))
  have ne_ad11_b1 : ad11 ≠ b1 := Nat.ne_of_lt (Nat.lt_of_lt_of_le Ex11.lt (Nat.le_of_eq g_b1.symm))
  have ne_ad12_b1 : ad12 ≠ b1 := Nat.ne_of_lt (Nat.lt_of_lt_of_le Ex12.lt (Nat.le_of_eq g_b1.symm))
  have ne_ad13_b1 : ad13 ≠ b1 := Nat.ne_of_lt (Nat.lt_of_lt_of_le Ex13.lt (Nat.le_of_eq g_b1.symm))
  have ne_ad14_b1 : ad14 ≠ b1 := Nat.ne_of_lt (Nat.lt_of_lt_of_le Ex14.lt (Nat.le_of_eq g_b1.symm))
  have ne_ad15_b1 : ad15 ≠ b1 := Nat.ne_of_lt (Nat.lt_of_lt_of_le Ex15.lt (Nat.le_of_eq g_b1.symm))
  have ne_ad16_b1 : ad16 ≠ b1 := Nat.ne_of_lt (Nat.lt_of_lt_of_le Ex16.lt (Nat.le_of_eq g_b1.symm))
  have ne_a_b1 : a ≠ b1 := Nat.ne_of_lt (Nat.lt_of_lt_of_le ExA.lt (Nat.le_of_eq g_b1.symm))
  have V_b1 : Arv Z h1 b1 k1 (.object "com/example/authzlint/authzlint/model/DataType") (17 : Int32) [.null, .null, .null, .null, .null, .null, .null, .null, .null, .null, .null, .null, .null, .null, .null, .null, .null] .null := (Arv.new A1 (by decide)).pad (pad_rep [] .null 17)
  have c3 := S0.ext E1
  obtain ⟨T2, X2, e2, st2⟩ := getS2 X1 hx hZ hown (host := "") (Or.inl (ow hw 2 rfl)) Via.refl e1 c3 (g := (mkF m 7 #[.val (.int p1), .unset, .unset, .unset, .unset] [(.int (0 : Int32)), (.ref b1), (.ref b1)])) rfl (hb hby at_7)
  obtain ⟨clz4, Arz4, qz4, Sz4, Nz4, Hz4, Gz4⟩ := V_b1
  have hin5 : ¬ ((0 : Int32) < 0 ∨ clz4.slots.size ≤ ((0 : Int32)).toNatClampNeg) := inb_of Sz4 ⟨by decide, by decide⟩
  have c6 := Ex0.ext E1
  obtain ⟨T5, h5, X5, e5, W5, st5⟩ := stR X2 hx hZ e2 Arz4 (j := (0 : Int32)) hin5 rfl (Sto.ofV Arz4 qz4 O1 (Ins.self c6)) (g := (mkF m 10 #[.val (.int p1), .unset, .unset, .unset, .unset] [(.ref ad0), (.int (0 : Int32)), (.ref b1), (.ref b1)])) rfl rfl (hb hby at_10)
  have V5 : Arv Z h5 b1 k1 (.object "com/example/authzlint/authzlint/model/DataType") (17 : Int32) [(.ref ad0), .null, .null, .null, .null, .null, .null, .null, .null, .null, .null, .null, .null, .null, .null, .null, .null] .null := Arv.set Arz4 qz4 Sz4 Nz4 Hz4 Gz4 rfl W5 0 rfl (Nat.le_of_ble_eq_true rfl)
  have N5 := Fr.snoc X5 N0 g0_b1
  have c8 := S1.ext E1
  have c9 := c8.wr W5
  obtain ⟨T7, X7, e7, st7⟩ := getS2 X5 hx hZ hown (host := "") (Or.inl (ow hw 6 rfl)) Via.refl e5 c9 (g := (mkF m 13 #[.val (.int p1), .unset, .unset, .unset, .unset] [(.int (1 : Int32)), (.ref b1), (.ref b1)])) rfl (hb hby at_13)
  obtain ⟨clz10, Arz10, qz10, Sz10, Nz10, Hz10, Gz10⟩ := V5
  have hin11 : ¬ ((1 : Int32) < 0 ∨ clz10.slots.size ≤ ((1 : Int32)).toNatClampNeg) := inb_of Sz10 ⟨by decide, by decide⟩
  have c12 := Ex1.ext E1
  have c13 := c12.wr W5
  obtain ⟨T11, h11, X11, e11, W11, st11⟩ := stR X7 hx hZ e7 Arz10 (j := (1 : Int32)) hin11 rfl (Sto.ofV Arz10 qz10 O1 (Ins.self c13)) (g := (mkF m 16 #[.val (.int p1), .unset, .unset, .unset, .unset] [(.ref ad1), (.int (1 : Int32)), (.ref b1), (.ref b1)])) rfl rfl (hb hby at_16)
  have V11 : Arv Z h11 b1 k1 (.object "com/example/authzlint/authzlint/model/DataType") (17 : Int32) [(.ref ad0), (.ref ad1), .null, .null, .null, .null, .null, .null, .null, .null, .null, .null, .null, .null, .null, .null, .null] .null := Arv.set Arz10 qz10 Sz10 Nz10 Hz10 Gz10 rfl W11 1 rfl (Nat.le_of_ble_eq_true rfl)
  have N11 := Fr.snoc X11 N5 g0_b1
  have c15 := S2.ext E1
  have c16 := c15.wr W5
  have c17 := c16.wr W11
  obtain ⟨T14, X14, e14, st14⟩ := getS2 X11 hx hZ hown (host := "") (Or.inl (ow hw 8 rfl)) Via.refl e11 c17 (g := (mkF m 19 #[.val (.int p1), .unset, .unset, .unset, .unset] [(.int (2 : Int32)), (.ref b1), (.ref b1)])) rfl (hb hby at_19)
  obtain ⟨clz18, Arz18, qz18, Sz18, Nz18, Hz18, Gz18⟩ := V11
  have hin19 : ¬ ((2 : Int32) < 0 ∨ clz18.slots.size ≤ ((2 : Int32)).toNatClampNeg) := inb_of Sz18 ⟨by decide, by decide⟩
  have c20 := Ex2.ext E1
  have c21 := c20.wr W5
  have c22 := c21.wr W11
  obtain ⟨T19, h19, X19, e19, W19, st19⟩ := stR X14 hx hZ e14 Arz18 (j := (2 : Int32)) hin19 rfl (Sto.ofV Arz18 qz18 O1 (Ins.self c22)) (g := (mkF m 22 #[.val (.int p1), .unset, .unset, .unset, .unset] [(.ref ad2), (.int (2 : Int32)), (.ref b1), (.ref b1)])) rfl rfl (hb hby at_22)
  have V19 : Arv Z h19 b1 k1 (.object "com/example/authzlint/authzlint/model/DataType") (17 : Int32) [(.ref ad0), (.ref ad1), (.ref ad2), .null, .null, .null, .null, .null, .null, .null, .null, .null, .null, .null, .null, .null, .null] .null := Arv.set Arz18 qz18 Sz18 Nz18 Hz18 Gz18 rfl W19 2 rfl (Nat.le_of_ble_eq_true rfl)
  have N19 := Fr.snoc X19 N11 g0_b1
  have c24 := S3.ext E1
  have c25 := c24.wr W5
  have c26 := c25.wr W11
  have c27 := c26.wr W19
  obtain ⟨T23, X23, e23, st23⟩ := getS2 X19 hx hZ hown (host := "") (Or.inl (ow hw 10 rfl)) Via.refl e19 c27 (g := (mkF m 25 #[.val (.int p1), .unset, .unset, .unset, .unset] [(.int (3 : Int32)), (.ref b1), (.ref b1)])) rfl (hb hby at_25)
  obtain ⟨clz28, Arz28, qz28, Sz28, Nz28, Hz28, Gz28⟩ := V19
  have hin29 : ¬ ((3 : Int32) < 0 ∨ clz28.slots.size ≤ ((3 : Int32)).toNatClampNeg) := inb_of Sz28 ⟨by decide, by decide⟩
  have c30 := Ex3.ext E1
  have c31 := c30.wr W5
  have c32 := c31.wr W11
  have c33 := c32.wr W19
  obtain ⟨T29, h29, X29, e29, W29, st29⟩ := stR X23 hx hZ e23 Arz28 (j := (3 : Int32)) hin29 rfl (Sto.ofV Arz28 qz28 O1 (Ins.self c33)) (g := (mkF m 28 #[.val (.int p1), .unset, .unset, .unset, .unset] [(.ref ad3), (.int (3 : Int32)), (.ref b1), (.ref b1)])) rfl rfl (hb hby at_28)
  have V29 : Arv Z h29 b1 k1 (.object "com/example/authzlint/authzlint/model/DataType") (17 : Int32) [(.ref ad0), (.ref ad1), (.ref ad2), (.ref ad3), .null, .null, .null, .null, .null, .null, .null, .null, .null, .null, .null, .null, .null] .null := Arv.set Arz28 qz28 Sz28 Nz28 Hz28 Gz28 rfl W29 3 rfl (Nat.le_of_ble_eq_true rfl)
  have N29 := Fr.snoc X29 N19 g0_b1
  have c35 := S4.ext E1
  have c36 := c35.wr W5
  have c37 := c36.wr W11
  have c38 := c37.wr W19
  have c39 := c38.wr W29
  obtain ⟨T34, X34, e34, st34⟩ := getS2 X29 hx hZ hown (host := "") (Or.inl (ow hw 12 rfl)) Via.refl e29 c39 (g := (mkF m 31 #[.val (.int p1), .unset, .unset, .unset, .unset] [(.int (4 : Int32)), (.ref b1), (.ref b1)])) rfl (hb hby at_31)
  obtain ⟨clz40, Arz40, qz40, Sz40, Nz40, Hz40, Gz40⟩ := V29
  have hin41 : ¬ ((4 : Int32) < 0 ∨ clz40.slots.size ≤ ((4 : Int32)).toNatClampNeg) := inb_of Sz40 ⟨by decide, by decide⟩
  have c42 := Ex4.ext E1
  have c43 := c42.wr W5
  have c44 := c43.wr W11
  have c45 := c44.wr W19
  have c46 := c45.wr W29
  obtain ⟨T41, h41, X41, e41, W41, st41⟩ := stR X34 hx hZ e34 Arz40 (j := (4 : Int32)) hin41 rfl (Sto.ofV Arz40 qz40 O1 (Ins.self c46)) (g := (mkF m 34 #[.val (.int p1), .unset, .unset, .unset, .unset] [(.ref ad4), (.int (4 : Int32)), (.ref b1), (.ref b1)])) rfl rfl (hb hby at_34)
  have V41 : Arv Z h41 b1 k1 (.object "com/example/authzlint/authzlint/model/DataType") (17 : Int32) [(.ref ad0), (.ref ad1), (.ref ad2), (.ref ad3), (.ref ad4), .null, .null, .null, .null, .null, .null, .null, .null, .null, .null, .null, .null] .null := Arv.set Arz40 qz40 Sz40 Nz40 Hz40 Gz40 rfl W41 4 rfl (Nat.le_of_ble_eq_true rfl)
  have N41 := Fr.snoc X41 N29 g0_b1
  have c48 := S5.ext E1
  have c49 := c48.wr W5
  have c50 := c49.wr W11
  have c51 := c50.wr W19
  have c52 := c51.wr W29
  have c53 := c52.wr W41
  obtain ⟨T47, X47, e47, st47⟩ := getS2 X41 hx hZ hown (host := "") (Or.inl (ow hw 14 rfl)) Via.refl e41 c53 (g := (mkF m 37 #[.val (.int p1), .unset, .unset, .unset, .unset] [(.int (5 : Int32)), (.ref b1), (.ref b1)])) rfl (hb hby at_37)
  obtain ⟨clz54, Arz54, qz54, Sz54, Nz54, Hz54, Gz54⟩ := V41
  have hin55 : ¬ ((5 : Int32) < 0 ∨ clz54.slots.size ≤ ((5 : Int32)).toNatClampNeg) := inb_of Sz54 ⟨by decide, by decide⟩
  have c56 := Ex5.ext E1
  have c57 := c56.wr W5
  have c58 := c57.wr W11
  have c59 := c58.wr W19
  have c60 := c59.wr W29
  have c61 := c60.wr W41
  obtain ⟨T55, h55, X55, e55, W55, st55⟩ := stR X47 hx hZ e47 Arz54 (j := (5 : Int32)) hin55 rfl (Sto.ofV Arz54 qz54 O1 (Ins.self c61)) (g := (mkF m 40 #[.val (.int p1), .unset, .unset, .unset, .unset] [(.ref ad5), (.int (5 : Int32)), (.ref b1), (.ref b1)])) rfl rfl (hb hby at_40)
  have V55 : Arv Z h55 b1 k1 (.object "com/example/authzlint/authzlint/model/DataType") (17 : Int32) [(.ref ad0), (.ref ad1), (.ref ad2), (.ref ad3), (.ref ad4), (.ref ad5), .null, .null, .null, .null, .null, .null, .null, .null, .null, .null, .null] .null := Arv.set Arz54 qz54 Sz54 Nz54 Hz54 Gz54 rfl W55 5 rfl (Nat.le_of_ble_eq_true rfl)
  have N55 := Fr.snoc X55 N41 g0_b1
  have c63 := S6.ext E1
  have c64 := c63.wr W5
  have c65 := c64.wr W11
  have c66 := c65.wr W19
  have c67 := c66.wr W29
  have c68 := c67.wr W41
  have c69 := c68.wr W55
  obtain ⟨T62, X62, e62, st62⟩ := getS2 X55 hx hZ hown (host := "") (Or.inl (ow hw 16 rfl)) Via.refl e55 c69 (g := (mkF m 44 #[.val (.int p1), .unset, .unset, .unset, .unset] [(.int (6 : Int32)), (.ref b1), (.ref b1)])) rfl (hb hby at_44)
  obtain ⟨clz70, Arz70, qz70, Sz70, Nz70, Hz70, Gz70⟩ := V55
  have hin71 : ¬ ((6 : Int32) < 0 ∨ clz70.slots.size ≤ ((6 : Int32)).toNatClampNeg) := inb_of Sz70 ⟨by decide, by decide⟩
  have c72 := Ex6.ext E1
  have c73 := c72.wr W5
  have c74 := c73.wr W11
  have c75 := c74.wr W19
  have c76 := c75.wr W29
  have c77 := c76.wr W41
  have c78 := c77.wr W55
  obtain ⟨T71, h71, X71, e71, W71, st71⟩ := stR X62 hx hZ e62 Arz70 (j := (6 : Int32)) hin71 rfl (Sto.ofV Arz70 qz70 O1 (Ins.self c78)) (g := (mkF m 47 #[.val (.int p1), .unset, .unset, .unset, .unset] [(.ref ad6), (.int (6 : Int32)), (.ref b1), (.ref b1)])) rfl rfl (hb hby at_47)
  have V71 : Arv Z h71 b1 k1 (.object "com/example/authzlint/authzlint/model/DataType") (17 : Int32) [(.ref ad0), (.ref ad1), (.ref ad2), (.ref ad3), (.ref ad4), (.ref ad5), (.ref ad6), .null, .null, .null, .null, .null, .null, .null, .null, .null, .null] .null := Arv.set Arz70 qz70 Sz70 Nz70 Hz70 Gz70 rfl W71 6 rfl (Nat.le_of_ble_eq_true rfl)
  have N71 := Fr.snoc X71 N55 g0_b1
  have c80 := S7.ext E1
  have c81 := c80.wr W5
  have c82 := c81.wr W11
  have c83 := c82.wr W19
  have c84 := c83.wr W29
  have c85 := c84.wr W41
  have c86 := c85.wr W55
  have c87 := c86.wr W71
  obtain ⟨T79, X79, e79, st79⟩ := getS2 X71 hx hZ hown (host := "") (Or.inl (ow hw 18 rfl)) Via.refl e71 c87 (g := (mkF m 51 #[.val (.int p1), .unset, .unset, .unset, .unset] [(.int (7 : Int32)), (.ref b1), (.ref b1)])) rfl (hb hby at_51)
  obtain ⟨clz88, Arz88, qz88, Sz88, Nz88, Hz88, Gz88⟩ := V71
  have hin89 : ¬ ((7 : Int32) < 0 ∨ clz88.slots.size ≤ ((7 : Int32)).toNatClampNeg) := inb_of Sz88 ⟨by decide, by decide⟩
  have c90 := Ex7.ext E1
  have c91 := c90.wr W5
  have c92 := c91.wr W11
  have c93 := c92.wr W19
  have c94 := c93.wr W29
  have c95 := c94.wr W41
  have c96 := c95.wr W55
  have c97 := c96.wr W71
  obtain ⟨T89, h89, X89, e89, W89, st89⟩ := stR X79 hx hZ e79 Arz88 (j := (7 : Int32)) hin89 rfl (Sto.ofV Arz88 qz88 O1 (Ins.self c97)) (g := (mkF m 54 #[.val (.int p1), .unset, .unset, .unset, .unset] [(.ref ad7), (.int (7 : Int32)), (.ref b1), (.ref b1)])) rfl rfl (hb hby at_54)
  have V89 : Arv Z h89 b1 k1 (.object "com/example/authzlint/authzlint/model/DataType") (17 : Int32) [(.ref ad0), (.ref ad1), (.ref ad2), (.ref ad3), (.ref ad4), (.ref ad5), (.ref ad6), (.ref ad7), .null, .null, .null, .null, .null, .null, .null, .null, .null] .null := Arv.set Arz88 qz88 Sz88 Nz88 Hz88 Gz88 rfl W89 7 rfl (Nat.le_of_ble_eq_true rfl)
  have N89 := Fr.snoc X89 N71 g0_b1
  have c99 := S8.ext E1
  have c100 := c99.wr W5
  have c101 := c100.wr W11
  have c102 := c101.wr W19
  have c103 := c102.wr W29
  have c104 := c103.wr W41
  have c105 := c104.wr W55
  have c106 := c105.wr W71
  have c107 := c106.wr W89
  obtain ⟨T98, X98, e98, st98⟩ := getS2 X89 hx hZ hown (host := "") (Or.inl (ow hw 20 rfl)) Via.refl e89 c107 (g := (mkF m 58 #[.val (.int p1), .unset, .unset, .unset, .unset] [(.int (8 : Int32)), (.ref b1), (.ref b1)])) rfl (hb hby at_58)
  obtain ⟨clz108, Arz108, qz108, Sz108, Nz108, Hz108, Gz108⟩ := V89
  have hin109 : ¬ ((8 : Int32) < 0 ∨ clz108.slots.size ≤ ((8 : Int32)).toNatClampNeg) := inb_of Sz108 ⟨by decide, by decide⟩
  have c110 := Ex8.ext E1
  have c111 := c110.wr W5
  have c112 := c111.wr W11
  have c113 := c112.wr W19
  have c114 := c113.wr W29
  have c115 := c114.wr W41
  have c116 := c115.wr W55
  have c117 := c116.wr W71
  have c118 := c117.wr W89
  obtain ⟨T109, h109, X109, e109, W109, st109⟩ := stR X98 hx hZ e98 Arz108 (j := (8 : Int32)) hin109 rfl (Sto.ofV Arz108 qz108 O1 (Ins.self c118)) (g := (mkF m 61 #[.val (.int p1), .unset, .unset, .unset, .unset] [(.ref ad8), (.int (8 : Int32)), (.ref b1), (.ref b1)])) rfl rfl (hb hby at_61)
  have V109 : Arv Z h109 b1 k1 (.object "com/example/authzlint/authzlint/model/DataType") (17 : Int32) [(.ref ad0), (.ref ad1), (.ref ad2), (.ref ad3), (.ref ad4), (.ref ad5), (.ref ad6), (.ref ad7), (.ref ad8), .null, .null, .null, .null, .null, .null, .null, .null] .null := Arv.set Arz108 qz108 Sz108 Nz108 Hz108 Gz108 rfl W109 8 rfl (Nat.le_of_ble_eq_true rfl)
  have N109 := Fr.snoc X109 N89 g0_b1
  have c120 := S9.ext E1
  have c121 := c120.wr W5
  have c122 := c121.wr W11
  have c123 := c122.wr W19
  have c124 := c123.wr W29
  have c125 := c124.wr W41
  have c126 := c125.wr W55
  have c127 := c126.wr W71
  have c128 := c127.wr W89
  have c129 := c128.wr W109
  obtain ⟨T119, X119, e119, st119⟩ := getS2 X109 hx hZ hown (host := "") (Or.inl (ow hw 22 rfl)) Via.refl e109 c129 (g := (mkF m 65 #[.val (.int p1), .unset, .unset, .unset, .unset] [(.int (9 : Int32)), (.ref b1), (.ref b1)])) rfl (hb hby at_65)
  obtain ⟨clz130, Arz130, qz130, Sz130, Nz130, Hz130, Gz130⟩ := V109
  have hin131 : ¬ ((9 : Int32) < 0 ∨ clz130.slots.size ≤ ((9 : Int32)).toNatClampNeg) := inb_of Sz130 ⟨by decide, by decide⟩
  have c132 := Ex9.ext E1
  have c133 := c132.wr W5
  have c134 := c133.wr W11
  have c135 := c134.wr W19
  have c136 := c135.wr W29
  have c137 := c136.wr W41
  have c138 := c137.wr W55
  have c139 := c138.wr W71
  have c140 := c139.wr W89
  have c141 := c140.wr W109
  obtain ⟨T131, h131, X131, e131, W131, st131⟩ := stR X119 hx hZ e119 Arz130 (j := (9 : Int32)) hin131 rfl (Sto.ofV Arz130 qz130 O1 (Ins.self c141)) (g := (mkF m 68 #[.val (.int p1), .unset, .unset, .unset, .unset] [(.ref ad9), (.int (9 : Int32)), (.ref b1), (.ref b1)])) rfl rfl (hb hby at_68)
  have V131 : Arv Z h131 b1 k1 (.object "com/example/authzlint/authzlint/model/DataType") (17 : Int32) [(.ref ad0), (.ref ad1), (.ref ad2), (.ref ad3), (.ref ad4), (.ref ad5), (.ref ad6), (.ref ad7), (.ref ad8), (.ref ad9), .null, .null, .null, .null, .null, .null, .null] .null := Arv.set Arz130 qz130 Sz130 Nz130 Hz130 Gz130 rfl W131 9 rfl (Nat.le_of_ble_eq_true rfl)
  have N131 := Fr.snoc X131 N109 g0_b1
  have c143 := S10.ext E1
  have c144 := c143.wr W5
  have c145 := c144.wr W11
  have c146 := c145.wr W19
  have c147 := c146.wr W29
  have c148 := c147.wr W41
  have c149 := c148.wr W55
  have c150 := c149.wr W71
  have c151 := c150.wr W89
  have c152 := c151.wr W109
  have c153 := c152.wr W131
  obtain ⟨T142, X142, e142, st142⟩ := getS2 X131 hx hZ hown (host := "") (Or.inl (ow hw 24 rfl)) Via.refl e131 c153 (g := (mkF m 72 #[.val (.int p1), .unset, .unset, .unset, .unset] [(.int (10 : Int32)), (.ref b1), (.ref b1)])) rfl (hb hby at_72)
  obtain ⟨clz154, Arz154, qz154, Sz154, Nz154, Hz154, Gz154⟩ := V131
  have hin155 : ¬ ((10 : Int32) < 0 ∨ clz154.slots.size ≤ ((10 : Int32)).toNatClampNeg) := inb_of Sz154 ⟨by decide, by decide⟩
  have c156 := Ex10.ext E1
  have c157 := c156.wr W5
  have c158 := c157.wr W11
  have c159 := c158.wr W19
  have c160 := c159.wr W29
  have c161 := c160.wr W41
  have c162 := c161.wr W55
  have c163 := c162.wr W71
  have c164 := c163.wr W89
  have c165 := c164.wr W109
  have c166 := c165.wr W131
  obtain ⟨T155, h155, X155, e155, W155, st155⟩ := stR X142 hx hZ e142 Arz154 (j := (10 : Int32)) hin155 rfl (Sto.ofV Arz154 qz154 O1 (Ins.self c166)) (g := (mkF m 75 #[.val (.int p1), .unset, .unset, .unset, .unset] [(.ref ad10), (.int (10 : Int32)), (.ref b1), (.ref b1)])) rfl rfl (hb hby at_75)
  have V155 : Arv Z h155 b1 k1 (.object "com/example/authzlint/authzlint/model/DataType") (17 : Int32) [(.ref ad0), (.ref ad1), (.ref ad2), (.ref ad3), (.ref ad4), (.ref ad5), (.ref ad6), (.ref ad7), (.ref ad8), (.ref ad9), (.ref ad10), .null, .null, .null, .null, .null, .null] .null := Arv.set Arz154 qz154 Sz154 Nz154 Hz154 Gz154 rfl W155 10 rfl (Nat.le_of_ble_eq_true rfl)
  have N155 := Fr.snoc X155 N131 g0_b1
  have c168 := S11.ext E1
  have c169 := c168.wr W5
  have c170 := c169.wr W11
  have c171 := c170.wr W19
  have c172 := c171.wr W29
  have c173 := c172.wr W41
  have c174 := c173.wr W55
  have c175 := c174.wr W71
  have c176 := c175.wr W89
  have c177 := c176.wr W109
  have c178 := c177.wr W131
  have c179 := c178.wr W155
  obtain ⟨T167, X167, e167, st167⟩ := getS2 X155 hx hZ hown (host := "") (Or.inl (ow hw 26 rfl)) Via.refl e155 c179 (g := (mkF m 79 #[.val (.int p1), .unset, .unset, .unset, .unset] [(.int (11 : Int32)), (.ref b1), (.ref b1)])) rfl (hb hby at_79)
  obtain ⟨clz180, Arz180, qz180, Sz180, Nz180, Hz180, Gz180⟩ := V155
  have hin181 : ¬ ((11 : Int32) < 0 ∨ clz180.slots.size ≤ ((11 : Int32)).toNatClampNeg) := inb_of Sz180 ⟨by decide, by decide⟩
  have c182 := Ex11.ext E1
  have c183 := c182.wr W5
  have c184 := c183.wr W11
  have c185 := c184.wr W19
  have c186 := c185.wr W29
  have c187 := c186.wr W41
  have c188 := c187.wr W55
  have c189 := c188.wr W71
  have c190 := c189.wr W89
  have c191 := c190.wr W109
  have c192 := c191.wr W131
  have c193 := c192.wr W155
  obtain ⟨T181, h181, X181, e181, W181, st181⟩ := stR X167 hx hZ e167 Arz180 (j := (11 : Int32)) hin181 rfl (Sto.ofV Arz180 qz180 O1 (Ins.self c193)) (g := (mkF m 82 #[.val (.int p1), .unset, .unset, .unset, .unset] [(.ref ad11), (.int (11 : Int32)), (.ref b1), (.ref b1)])) rfl rfl (hb hby at_82)
  have V181 : Arv Z h181 b1 k1 (.object "com/example/authzlint/authzlint/model/DataType") (17 : Int32) [(.ref ad0), (.ref ad1), (.ref ad2), (.ref ad3), (.ref ad4), (.ref ad5), (.ref ad6), (.ref ad7), (.ref ad8), (.ref ad9), (.ref ad10), (.ref ad11), .null, .null, .null, .null, .null] .null := Arv.set Arz180 qz180 Sz180 Nz180 Hz180 Gz180 rfl W181 11 rfl (Nat.le_of_ble_eq_true rfl)
  have N181 := Fr.snoc X181 N155 g0_b1
  have c195 := S12.ext E1
  have c196 := c195.wr W5
  have c197 := c196.wr W11
  have c198 := c197.wr W19
  have c199 := c198.wr W29
  have c200 := c199.wr W41
  have c201 := c200.wr W55
  have c202 := c201.wr W71
  have c203 := c202.wr W89
  have c204 := c203.wr W109
  have c205 := c204.wr W131
  have c206 := c205.wr W155
  have c207 := c206.wr W181
  obtain ⟨T194, X194, e194, st194⟩ := getS2 X181 hx hZ hown (host := "") (Or.inl (ow hw 28 rfl)) Via.refl e181 c207 (g := (mkF m 86 #[.val (.int p1), .unset, .unset, .unset, .unset] [(.int (12 : Int32)), (.ref b1), (.ref b1)])) rfl (hb hby at_86)
  obtain ⟨clz208, Arz208, qz208, Sz208, Nz208, Hz208, Gz208⟩ := V181
  have hin209 : ¬ ((12 : Int32) < 0 ∨ clz208.slots.size ≤ ((12 : Int32)).toNatClampNeg) := inb_of Sz208 ⟨by decide, by decide⟩
  have c210 := Ex12.ext E1
  have c211 := c210.wr W5
  have c212 := c211.wr W11
  have c213 := c212.wr W19
  have c214 := c213.wr W29
  have c215 := c214.wr W41
  have c216 := c215.wr W55
  have c217 := c216.wr W71
  have c218 := c217.wr W89
  have c219 := c218.wr W109
  have c220 := c219.wr W131
  have c221 := c220.wr W155
  have c222 := c221.wr W181
  obtain ⟨T209, h209, X209, e209, W209, st209⟩ := stR X194 hx hZ e194 Arz208 (j := (12 : Int32)) hin209 rfl (Sto.ofV Arz208 qz208 O1 (Ins.self c222)) (g := (mkF m 89 #[.val (.int p1), .unset, .unset, .unset, .unset] [(.ref ad12), (.int (12 : Int32)), (.ref b1), (.ref b1)])) rfl rfl (hb hby at_89)
  have V209 : Arv Z h209 b1 k1 (.object "com/example/authzlint/authzlint/model/DataType") (17 : Int32) [(.ref ad0), (.ref ad1), (.ref ad2), (.ref ad3), (.ref ad4), (.ref ad5), (.ref ad6), (.ref ad7), (.ref ad8), (.ref ad9), (.ref ad10), (.ref ad11), (.ref ad12), .null, .null, .null, .null] .null := Arv.set Arz208 qz208 Sz208 Nz208 Hz208 Gz208 rfl W209 12 rfl (Nat.le_of_ble_eq_true rfl)
  have N209 := Fr.snoc X209 N181 g0_b1
  have c224 := S13.ext E1
  have c225 := c224.wr W5
  have c226 := c225.wr W11
  have c227 := c226.wr W19
  have c228 := c227.wr W29
  have c229 := c228.wr W41
  have c230 := c229.wr W55
  have c231 := c230.wr W71
  have c232 := c231.wr W89
  have c233 := c232.wr W109
  have c234 := c233.wr W131
  have c235 := c234.wr W155
  have c236 := c235.wr W181
  have c237 := c236.wr W209
  obtain ⟨T223, X223, e223, st223⟩ := getS2 X209 hx hZ hown (host := "") (Or.inl (ow hw 30 rfl)) Via.refl e209 c237 (g := (mkF m 93 #[.val (.int p1), .unset, .unset, .unset, .unset] [(.int (13 : Int32)), (.ref b1), (.ref b1)])) rfl (hb hby at_93)
  obtain ⟨clz238, Arz238, qz238, Sz238, Nz238, Hz238, Gz238⟩ := V209
  have hin239 : ¬ ((13 : Int32) < 0 ∨ clz238.slots.size ≤ ((13 : Int32)).toNatClampNeg) := inb_of Sz238 ⟨by decide, by decide⟩
  have c240 := Ex13.ext E1
  have c241 := c240.wr W5
  have c242 := c241.wr W11
  have c243 := c242.wr W19
  have c244 := c243.wr W29
  have c245 := c244.wr W41
  have c246 := c245.wr W55
  have c247 := c246.wr W71
  have c248 := c247.wr W89
  have c249 := c248.wr W109
  have c250 := c249.wr W131
  have c251 := c250.wr W155
  have c252 := c251.wr W181
  have c253 := c252.wr W209
  obtain ⟨T239, h239, X239, e239, W239, st239⟩ := stR X223 hx hZ e223 Arz238 (j := (13 : Int32)) hin239 rfl (Sto.ofV Arz238 qz238 O1 (Ins.self c253)) (g := (mkF m 96 #[.val (.int p1), .unset, .unset, .unset, .unset] [(.ref ad13), (.int (13 : Int32)), (.ref b1), (.ref b1)])) rfl rfl (hb hby at_96)
  have V239 : Arv Z h239 b1 k1 (.object "com/example/authzlint/authzlint/model/DataType") (17 : Int32) [(.ref ad0), (.ref ad1), (.ref ad2), (.ref ad3), (.ref ad4), (.ref ad5), (.ref ad6), (.ref ad7), (.ref ad8), (.ref ad9), (.ref ad10), (.ref ad11), (.ref ad12), (.ref ad13), .null, .null, .null] .null := Arv.set Arz238 qz238 Sz238 Nz238 Hz238 Gz238 rfl W239 13 rfl (Nat.le_of_ble_eq_true rfl)
  have N239 := Fr.snoc X239 N209 g0_b1
  have c255 := S14.ext E1
  have c256 := c255.wr W5
  have c257 := c256.wr W11
  have c258 := c257.wr W19
  have c259 := c258.wr W29
  have c260 := c259.wr W41
  have c261 := c260.wr W55
  have c262 := c261.wr W71
  have c263 := c262.wr W89
  have c264 := c263.wr W109
  have c265 := c264.wr W131
  have c266 := c265.wr W155
  have c267 := c266.wr W181
  have c268 := c267.wr W209
  have c269 := c268.wr W239
  obtain ⟨T254, X254, e254, st254⟩ := getS2 X239 hx hZ hown (host := "") (Or.inl (ow hw 32 rfl)) Via.refl e239 c269 (g := (mkF m 100 #[.val (.int p1), .unset, .unset, .unset, .unset] [(.int (14 : Int32)), (.ref b1), (.ref b1)])) rfl (hb hby at_100)
  obtain ⟨clz270, Arz270, qz270, Sz270, Nz270, Hz270, Gz270⟩ := V239
  have hin271 : ¬ ((14 : Int32) < 0 ∨ clz270.slots.size ≤ ((14 : Int32)).toNatClampNeg) := inb_of Sz270 ⟨by decide, by decide⟩
  have c272 := Ex14.ext E1
  have c273 := c272.wr W5
  have c274 := c273.wr W11
  have c275 := c274.wr W19
  have c276 := c275.wr W29
  have c277 := c276.wr W41
  have c278 := c277.wr W55
  have c279 := c278.wr W71
  have c280 := c279.wr W89
  have c281 := c280.wr W109
  have c282 := c281.wr W131
  have c283 := c282.wr W155
  have c284 := c283.wr W181
  have c285 := c284.wr W209
  have c286 := c285.wr W239
  obtain ⟨T271, h271, X271, e271, W271, st271⟩ := stR X254 hx hZ e254 Arz270 (j := (14 : Int32)) hin271 rfl (Sto.ofV Arz270 qz270 O1 (Ins.self c286)) (g := (mkF m 103 #[.val (.int p1), .unset, .unset, .unset, .unset] [(.ref ad14), (.int (14 : Int32)), (.ref b1), (.ref b1)])) rfl rfl (hb hby at_103)
  have V271 : Arv Z h271 b1 k1 (.object "com/example/authzlint/authzlint/model/DataType") (17 : Int32) [(.ref ad0), (.ref ad1), (.ref ad2), (.ref ad3), (.ref ad4), (.ref ad5), (.ref ad6), (.ref ad7), (.ref ad8), (.ref ad9), (.ref ad10), (.ref ad11), (.ref ad12), (.ref ad13), (.ref ad14), .null, .null] .null := Arv.set Arz270 qz270 Sz270 Nz270 Hz270 Gz270 rfl W271 14 rfl (Nat.le_of_ble_eq_true rfl)
  have N271 := Fr.snoc X271 N239 g0_b1
  have c288 := S15.ext E1
  have c289 := c288.wr W5
  have c290 := c289.wr W11
  have c291 := c290.wr W19
  have c292 := c291.wr W29
  have c293 := c292.wr W41
  have c294 := c293.wr W55
  have c295 := c294.wr W71
  have c296 := c295.wr W89
  have c297 := c296.wr W109
  have c298 := c297.wr W131
  have c299 := c298.wr W155
  have c300 := c299.wr W181
  have c301 := c300.wr W209
  have c302 := c301.wr W239
  have c303 := c302.wr W271
  obtain ⟨T287, X287, e287, st287⟩ := getS2 X271 hx hZ hown (host := "") (Or.inl (ow hw 34 rfl)) Via.refl e271 c303 (g := (mkF m 107 #[.val (.int p1), .unset, .unset, .unset, .unset] [(.int (15 : Int32)), (.ref b1), (.ref b1)])) rfl (hb hby at_107)
  obtain ⟨clz304, Arz304, qz304, Sz304, Nz304, Hz304, Gz304⟩ := V271
  have hin305 : ¬ ((15 : Int32) < 0 ∨ clz304.slots.size ≤ ((15 : Int32)).toNatClampNeg) := inb_of Sz304 ⟨by decide, by decide⟩
  have c306 := Ex15.ext E1
  have c307 := c306.wr W5
  have c308 := c307.wr W11
  have c309 := c308.wr W19
  have c310 := c309.wr W29
  have c311 := c310.wr W41
  have c312 := c311.wr W55
  have c313 := c312.wr W71
  have c314 := c313.wr W89
  have c315 := c314.wr W109
  have c316 := c315.wr W131
  have c317 := c316.wr W155
  have c318 := c317.wr W181
  have c319 := c318.wr W209
  have c320 := c319.wr W239
  have c321 := c320.wr W271
  obtain ⟨T305, h305, X305, e305, W305, st305⟩ := stR X287 hx hZ e287 Arz304 (j := (15 : Int32)) hin305 rfl (Sto.ofV Arz304 qz304 O1 (Ins.self c321)) (g := (mkF m 110 #[.val (.int p1), .unset, .unset, .unset, .unset] [(.ref ad15), (.int (15 : Int32)), (.ref b1), (.ref b1)])) rfl rfl (hb hby at_110)
  have V305 : Arv Z h305 b1 k1 (.object "com/example/authzlint/authzlint/model/DataType") (17 : Int32) [(.ref ad0), (.ref ad1), (.ref ad2), (.ref ad3), (.ref ad4), (.ref ad5), (.ref ad6), (.ref ad7), (.ref ad8), (.ref ad9), (.ref ad10), (.ref ad11), (.ref ad12), (.ref ad13), (.ref ad14), (.ref ad15), .null] .null := Arv.set Arz304 qz304 Sz304 Nz304 Hz304 Gz304 rfl W305 15 rfl (Nat.le_of_ble_eq_true rfl)
  have N305 := Fr.snoc X305 N271 g0_b1
  have c323 := S16.ext E1
  have c324 := c323.wr W5
  have c325 := c324.wr W11
  have c326 := c325.wr W19
  have c327 := c326.wr W29
  have c328 := c327.wr W41
  have c329 := c328.wr W55
  have c330 := c329.wr W71
  have c331 := c330.wr W89
  have c332 := c331.wr W109
  have c333 := c332.wr W131
  have c334 := c333.wr W155
  have c335 := c334.wr W181
  have c336 := c335.wr W209
  have c337 := c336.wr W239
  have c338 := c337.wr W271
  have c339 := c338.wr W305
  obtain ⟨T322, X322, e322, st322⟩ := getS2 X305 hx hZ hown (host := "") (Or.inl (ow hw 36 rfl)) Via.refl e305 c339 (g := (mkF m 114 #[.val (.int p1), .unset, .unset, .unset, .unset] [(.int (16 : Int32)), (.ref b1), (.ref b1)])) rfl (hb hby at_114)
  obtain ⟨clz340, Arz340, qz340, Sz340, Nz340, Hz340, Gz340⟩ := V305
  have hin341 : ¬ ((16 : Int32) < 0 ∨ clz340.slots.size ≤ ((16 : Int32)).toNatClampNeg) := inb_of Sz340 ⟨by decide, by decide⟩
  have c342 := Ex16.ext E1
  have c343 := c342.wr W5
  have c344 := c343.wr W11
  have c345 := c344.wr W19
  have c346 := c345.wr W29
  have c347 := c346.wr W41
  have c348 := c347.wr W55
  have c349 := c348.wr W71
  have c350 := c349.wr W89
  have c351 := c350.wr W109
  have c352 := c351.wr W131
  have c353 := c352.wr W155
  have c354 := c353.wr W181
  have c355 := c354.wr W209
  have c356 := c355.wr W239
  have c357 := c356.wr W271
  have c358 := c357.wr W305
  obtain ⟨T341, h341, X341, e341, W341, st341⟩ := stR X322 hx hZ e322 Arz340 (j := (16 : Int32)) hin341 rfl (Sto.ofV Arz340 qz340 O1 (Ins.self c358)) (g := (mkF m 117 #[.val (.int p1), .unset, .unset, .unset, .unset] [(.ref ad16), (.int (16 : Int32)), (.ref b1), (.ref b1)])) rfl rfl (hb hby at_117)
  have V341 : Arv Z h341 b1 k1 (.object "com/example/authzlint/authzlint/model/DataType") (17 : Int32) [(.ref ad0), (.ref ad1), (.ref ad2), (.ref ad3), (.ref ad4), (.ref ad5), (.ref ad6), (.ref ad7), (.ref ad8), (.ref ad9), (.ref ad10), (.ref ad11), (.ref ad12), (.ref ad13), (.ref ad14), (.ref ad15), (.ref ad16)] .null := Arv.set Arz340 qz340 Sz340 Nz340 Hz340 Gz340 rfl W341 16 rfl (Nat.le_of_ble_eq_true rfl)
  have N341 := Fr.snoc X341 N305 g0_b1
  obtain ⟨clz359, Arz359, qz359, Sz359, Nz359, Hz359, Gz359⟩ := V341
  have hin360 : ¬ (((p1 &&& (2147483647 : Int32)) % (17 : Int32)) < 0 ∨ clz359.slots.size ≤ (((p1 &&& (2147483647 : Int32)) % (17 : Int32))).toNatClampNeg) := by rw [hk]; exact inb_of Sz359 ⟨(own_in17 kk hkk).1, (own_in17 kk hkk).2.1⟩
  have hat360 : clz359.slots[(((p1 &&& (2147483647 : Int32)) % (17 : Int32))).toNatClampNeg]? = some (.ref a) := Hz359.at hin360 (by rw [hk, (own_in17 kk hkk).2.2]; exact hget)
  have c361 := c39.wr W41
  have c362 := c361.wr W55
  have c363 := c362.wr W71
  have c364 := c363.wr W89
  have c365 := c364.wr W109
  have c366 := c365.wr W131
  have c367 := c366.wr W155
  have c368 := c367.wr W181
  have c369 := c368.wr W209
  have c370 := c369.wr W239
  have c371 := c370.wr W271
  have c372 := c371.wr W305
  have c373 := c372.wr W341
  have c374 := c53.wr W55
  have c375 := c374.wr W71
  have c376 := c375.wr W89
  have c377 := c376.wr W109
  have c378 := c377.wr W131
  have c379 := c378.wr W155
  have c380 := c379.wr W181
  have c381 := c380.wr W209
  have c382 := c381.wr W239
  have c383 := c382.wr W271
  have c384 := c383.wr W305
  have c385 := c384.wr W341
  have c386 := c69.wr W71
  have c387 := c386.wr W89
  have c388 := c387.wr W109
  have c389 := c388.wr W131
  have c390 := c389.wr W155
  have c391 := c390.wr W181
  have c392 := c391.wr W209
  have c393 := c392.wr W239
  have c394 := c393.wr W271
  have c395 := c394.wr W305
  have c396 := c395.wr W341
  have c398 := ExA.ext E1
  have c399 := c398.wr W5
  have c400 := c399.wr W11
  have c401 := c400.wr W19
  have c402 := c401.wr W29
  have c403 := c402.wr W41
  have c404 := c403.wr W55
  have c405 := c404.wr W71
  have c406 := c405.wr W89
  have c407 := c406.wr W109
  have c408 := c407.wr W131
  have c409 := c408.wr W155
  have c410 := c409.wr W181
  have c411 := c410.wr W209
  have c412 := c411.wr W239
  have c413 := c412.wr W271
  have c414 := c413.wr W305
  have c415 := c414.wr W341
  obtain ⟨cq397, kq397, q397a, q397b, q397c⟩ := isOf hZ e341 c415
  obtain ⟨_, _, ⟨T397, L397, k397, n397⟩, -, X397, ⟨Lc397, hQ397, l397, y397, z397⟩, st397⟩ := X341.virtualBack hx (y := nm_1) (z := nm_1) hown (mvT hZ (ow hw 39 rfl)) (mvT hZ (ow hw 40 rfl)) (notFace_of_selects (args := #[]) (mvT hZ (ow hw 42 rfl))) (mvT hZ (ow hw 42 rfl)) (mvT hZ (ow hw 41 rfl)) (by decide) (backOf (W := 0) (rm1 l Z a0 hw [] a ad4 ad5 ad6 h341 n0 (Nat.le_trans (Nat.le_trans (Nat.le_trans (Nat.le_trans (Nat.le_trans (Nat.le_trans (Nat.le_trans (Nat.le_trans (Nat.le_trans (Nat.le_trans (Nat.le_trans (Nat.le_trans (Nat.le_trans (Nat.le_trans (Nat.le_trans (Nat.le_trans (Nat.le_trans (Nat.le_trans Z0 E1.1) (Keep.of_wr W5).1) (Keep.of_wr W11).1) (Keep.of_wr W19).1) (Keep.of_wr W29).1) (Keep.of_wr W41).1) (Keep.of_wr W55).1) (Keep.of_wr W71).1) (Keep.of_wr W89).1) (Keep.of_wr W109).1) (Keep.of_wr W131).1) (Keep.of_wr W155).1) (Keep.of_wr W181).1) (Keep.of_wr W209).1) (Keep.of_wr W239).1) (Keep.of_wr W271).1) (Keep.of_wr W305).1) (Keep.of_wr W341).1) c373 c385 c396) hZ (ow hw 43 rfl) (ow hw 3 rfl) (by decide) (by decide)) q397a q397c (g := (mkF m 155 #[.val (.int p1), .val (.ref b1), .val (.int ((p1 &&& (2147483647 : Int32)) % (17 : Int32))), .val (.ref a), .val (.int (1 : Int32))] [(.ref a)])) rfl (by rw [hml]; rfl) (Steps.refl _) (argsL := []) (rest := []) (lenOf pd_0 rfl) rfl (by show 2 * 0 + _ ≤ _; exact Nat.le_of_eq rfl) (hb hby at_155) (fun _ _ => ⟨rfl, e341, (by decide : 1 + 0 ≤ _), (by decide : 17 + 0 ≤ _)⟩)
  dsimp only [Pt.U, Pt.locs, Pt.cells, Pt.slots] at X397 l397 y397 z397 st397 hQ397
  subst l397 y397 z397
  obtain ⟨rfl, N397q, e397⟩ := hQ397
  have N397 := Fr.app N341 N397q
  obtain ⟨fs, hr, hrun, hended, hW, hsame⟩ := X397.leave (v := some (.int (1 : Int32))) (fun h => by rw [Bd.returns] at h; cases h)
  refine ⟨_, _, pre0 _ ?_, hrun, hended, _, _, rfl, ?_, ⟨_, rfl⟩, hW, hsame.mono (by decide) (by decide)⟩
  · show Steps p.tables e below (s₁.setTop (mkF m 0 #[.val (.int p1), .unset, .unset, .unset, .unset] [])) _
    refine XS.bipush X0.here hx rfl (hb hby at_0) ?_
    show Steps p.tables e below (s₁.setTop (mkF m 2 #[.val (.int p1), .unset, .unset, .unset, .unset] [(.int (17 : Int32))])) _
    refine st1 _ ?_
    show Steps p.tables e below (T1.setTop (mkF m 5 #[.val (.int p1), .unset, .unset, .unset, .unset] [(.ref b1)])) _
    refine XS.dup X1.here hx rfl (hb hby at_5) rfl rfl ?_
    show Steps p.tables e below (T1.setTop (mkF m 6 #[.val (.int p1), .unset, .unset, .unset, .unset] [(.ref b1), (.ref b1)])) _
    refine XS.iconst X1.here hx rfl (hb hby at_6) ?_
    show Steps p.tables e below (T1.setTop (mkF m 7 #[.val (.int p1), .unset, .unset, .unset, .unset] [(.int (0 : Int32)), (.ref b1), (.ref b1)])) _
    refine st2 _ ?_
    show Steps p.tables e below (T2.setTop (mkF m 10 #[.val (.int p1), .unset, .unset, .unset, .unset] [(.ref ad0), (.int (0 : Int32)), (.ref b1), (.ref b1)])) _
    refine st5 _ ?_
    show Steps p.tables e below (T5.setTop (mkF m 11 #[.val (.int p1), .unset, .unset, .unset, .unset] [(.ref b1)])) _
    refine XS.dup X5.here hx rfl (hb hby at_11) rfl rfl ?_
    show Steps p.tables e below (T5.setTop (mkF m 12 #[.val (.int p1), .unset, .unset, .unset, .unset] [(.ref b1), (.ref b1)])) _
    refine XS.iconst X5.here hx rfl (hb hby at_12) ?_
    show Steps p.tables e below (T5.setTop (mkF m 13 #[.val (.int p1), .unset, .unset, .unset, .unset] [(.int (1 : Int32)), (.ref b1), (.ref b1)])) _
    refine st7 _ ?_
    show Steps p.tables e below (T7.setTop (mkF m 16 #[.val (.int p1), .unset, .unset, .unset, .unset] [(.ref ad1), (.int (1 : Int32)), (.ref b1), (.ref b1)])) _
    refine st11 _ ?_
    show Steps p.tables e below (T11.setTop (mkF m 17 #[.val (.int p1), .unset, .unset, .unset, .unset] [(.ref b1)])) _
    refine XS.dup X11.here hx rfl (hb hby at_17) rfl rfl ?_
    show Steps p.tables e below (T11.setTop (mkF m 18 #[.val (.int p1), .unset, .unset, .unset, .unset] [(.ref b1), (.ref b1)])) _
    refine XS.iconst X11.here hx rfl (hb hby at_18) ?_
    show Steps p.tables e below (T11.setTop (mkF m 19 #[.val (.int p1), .unset, .unset, .unset, .unset] [(.int (2 : Int32)), (.ref b1), (.ref b1)])) _
    refine st14 _ ?_
    show Steps p.tables e below (T14.setTop (mkF m 22 #[.val (.int p1), .unset, .unset, .unset, .unset] [(.ref ad2), (.int (2 : Int32)), (.ref b1), (.ref b1)])) _
    refine st19 _ ?_
    show Steps p.tables e below (T19.setTop (mkF m 23 #[.val (.int p1), .unset, .unset, .unset, .unset] [(.ref b1)])) _
    refine XS.dup X19.here hx rfl (hb hby at_23) rfl rfl ?_
    show Steps p.tables e below (T19.setTop (mkF m 24 #[.val (.int p1), .unset, .unset, .unset, .unset] [(.ref b1), (.ref b1)])) _
    refine XS.iconst X19.here hx rfl (hb hby at_24) ?_
    show Steps p.tables e below (T19.setTop (mkF m 25 #[.val (.int p1), .unset, .unset, .unset, .unset] [(.int (3 : Int32)), (.ref b1), (.ref b1)])) _
    refine st23 _ ?_
    show Steps p.tables e below (T23.setTop (mkF m 28 #[.val (.int p1), .unset, .unset, .unset, .unset] [(.ref ad3), (.int (3 : Int32)), (.ref b1), (.ref b1)])) _
    refine st29 _ ?_
    show Steps p.tables e below (T29.setTop (mkF m 29 #[.val (.int p1), .unset, .unset, .unset, .unset] [(.ref b1)])) _
    refine XS.dup X29.here hx rfl (hb hby at_29) rfl rfl ?_
    show Steps p.tables e below (T29.setTop (mkF m 30 #[.val (.int p1), .unset, .unset, .unset, .unset] [(.ref b1), (.ref b1)])) _
    refine XS.iconst X29.here hx rfl (hb hby at_30) ?_
    show Steps p.tables e below (T29.setTop (mkF m 31 #[.val (.int p1), .unset, .unset, .unset, .unset] [(.int (4 : Int32)), (.ref b1), (.ref b1)])) _
    refine st34 _ ?_
    show Steps p.tables e below (T34.setTop (mkF m 34 #[.val (.int p1), .unset, .unset, .unset, .unset] [(.ref ad4), (.int (4 : Int32)), (.ref b1), (.ref b1)])) _
    refine st41 _ ?_
    show Steps p.tables e below (T41.setTop (mkF m 35 #[.val (.int p1), .unset, .unset, .unset, .unset] [(.ref b1)])) _
    refine XS.dup X41.here hx rfl (hb hby at_35) rfl rfl ?_
    show Steps p.tables e below (T41.setTop (mkF m 36 #[.val (.int p1), .unset, .unset, .unset, .unset] [(.ref b1), (.ref b1)])) _
    refine XS.iconst X41.here hx rfl (hb hby at_36) ?_
    show Steps p.tables e below (T41.setTop (mkF m 37 #[.val (.int p1), .unset, .unset, .unset, .unset] [(.int (5 : Int32)), (.ref b1), (.ref b1)])) _
    refine st47 _ ?_
    show Steps p.tables e below (T47.setTop (mkF m 40 #[.val (.int p1), .unset, .unset, .unset, .unset] [(.ref ad5), (.int (5 : Int32)), (.ref b1), (.ref b1)])) _
    refine st55 _ ?_
    show Steps p.tables e below (T55.setTop (mkF m 41 #[.val (.int p1), .unset, .unset, .unset, .unset] [(.ref b1)])) _
    refine XS.dup X55.here hx rfl (hb hby at_41) rfl rfl ?_
    show Steps p.tables e below (T55.setTop (mkF m 42 #[.val (.int p1), .unset, .unset, .unset, .unset] [(.ref b1), (.ref b1)])) _
    refine XS.bipush X55.here hx rfl (hb hby at_42) ?_
    show Steps p.tables e below (T55.setTop (mkF m 44 #[.val (.int p1), .unset, .unset, .unset, .unset] [(.int (6 : Int32)), (.ref b1), (.ref b1)])) _
    refine st62 _ ?_
    show Steps p.tables e below (T62.setTop (mkF m 47 #[.val (.int p1), .unset, .unset, .unset, .unset] [(.ref ad6), (.int (6 : Int32)), (.ref b1), (.ref b1)])) _
    refine st71 _ ?_
    show Steps p.tables e below (T71.setTop (mkF m 48 #[.val (.int p1), .unset, .unset, .unset, .unset] [(.ref b1)])) _
    refine XS.dup X71.here hx rfl (hb hby at_48) rfl rfl ?_
    show Steps p.tables e below (T71.setTop (mkF m 49 #[.val (.int p1), .unset, .unset, .unset, .unset] [(.ref b1), (.ref b1)])) _
    refine XS.bipush X71.here hx rfl (hb hby at_49) ?_
    show Steps p.tables e below (T71.setTop (mkF m 51 #[.val (.int p1), .unset, .unset, .unset, .unset] [(.int (7 : Int32)), (.ref b1), (.ref b1)])) _
    refine st79 _ ?_
    show Steps p.tables e below (T79.setTop (mkF m 54 #[.val (.int p1), .unset, .unset, .unset, .unset] [(.ref ad7), (.int (7 : Int32)), (.ref b1), (.ref b1)])) _
    refine st89 _ ?_
    show Steps p.tables e below (T89.setTop (mkF m 55 #[.val (.int p1), .unset, .unset, .unset, .unset] [(.ref b1)])) _
    refine XS.dup X89.here hx rfl (hb hby at_55) rfl rfl ?_
    show Steps p.tables e below (T89.setTop (mkF m 56 #[.val (.int p1), .unset, .unset, .unset, .unset] [(.ref b1), (.ref b1)])) _
    refine XS.bipush X89.here hx rfl (hb hby at_56) ?_
    show Steps p.tables e below (T89.setTop (mkF m 58 #[.val (.int p1), .unset, .unset, .unset, .unset] [(.int (8 : Int32)), (.ref b1), (.ref b1)])) _
    refine st98 _ ?_
    show Steps p.tables e below (T98.setTop (mkF m 61 #[.val (.int p1), .unset, .unset, .unset, .unset] [(.ref ad8), (.int (8 : Int32)), (.ref b1), (.ref b1)])) _
    refine st109 _ ?_
    show Steps p.tables e below (T109.setTop (mkF m 62 #[.val (.int p1), .unset, .unset, .unset, .unset] [(.ref b1)])) _
    refine XS.dup X109.here hx rfl (hb hby at_62) rfl rfl ?_
    show Steps p.tables e below (T109.setTop (mkF m 63 #[.val (.int p1), .unset, .unset, .unset, .unset] [(.ref b1), (.ref b1)])) _
    refine XS.bipush X109.here hx rfl (hb hby at_63) ?_
    show Steps p.tables e below (T109.setTop (mkF m 65 #[.val (.int p1), .unset, .unset, .unset, .unset] [(.int (9 : Int32)), (.ref b1), (.ref b1)])) _
    refine st119 _ ?_
    show Steps p.tables e below (T119.setTop (mkF m 68 #[.val (.int p1), .unset, .unset, .unset, .unset] [(.ref ad9), (.int (9 : Int32)), (.ref b1), (.ref b1)])) _
    refine st131 _ ?_
    show Steps p.tables e below (T131.setTop (mkF m 69 #[.val (.int p1), .unset, .unset, .unset, .unset] [(.ref b1)])) _
    refine XS.dup X131.here hx rfl (hb hby at_69) rfl rfl ?_
    show Steps p.tables e below (T131.setTop (mkF m 70 #[.val (.int p1), .unset, .unset, .unset, .unset] [(.ref b1), (.ref b1)])) _
    refine XS.bipush X131.here hx rfl (hb hby at_70) ?_
    show Steps p.tables e below (T131.setTop (mkF m 72 #[.val (.int p1), .unset, .unset, .unset, .unset] [(.int (10 : Int32)), (.ref b1), (.ref b1)])) _
    refine st142 _ ?_
    show Steps p.tables e below (T142.setTop (mkF m 75 #[.val (.int p1), .unset, .unset, .unset, .unset] [(.ref ad10), (.int (10 : Int32)), (.ref b1), (.ref b1)])) _
    refine st155 _ ?_
    show Steps p.tables e below (T155.setTop (mkF m 76 #[.val (.int p1), .unset, .unset, .unset, .unset] [(.ref b1)])) _
    refine XS.dup X155.here hx rfl (hb hby at_76) rfl rfl ?_
    show Steps p.tables e below (T155.setTop (mkF m 77 #[.val (.int p1), .unset, .unset, .unset, .unset] [(.ref b1), (.ref b1)])) _
    refine XS.bipush X155.here hx rfl (hb hby at_77) ?_
    show Steps p.tables e below (T155.setTop (mkF m 79 #[.val (.int p1), .unset, .unset, .unset, .unset] [(.int (11 : Int32)), (.ref b1), (.ref b1)])) _
    refine st167 _ ?_
    show Steps p.tables e below (T167.setTop (mkF m 82 #[.val (.int p1), .unset, .unset, .unset, .unset] [(.ref ad11), (.int (11 : Int32)), (.ref b1), (.ref b1)])) _
    refine st181 _ ?_
    show Steps p.tables e below (T181.setTop (mkF m 83 #[.val (.int p1), .unset, .unset, .unset, .unset] [(.ref b1)])) _
    refine XS.dup X181.here hx rfl (hb hby at_83) rfl rfl ?_
    show Steps p.tables e below (T181.setTop (mkF m 84 #[.val (.int p1), .unset, .unset, .unset, .unset] [(.ref b1), (.ref b1)])) _
    refine XS.bipush X181.here hx rfl (hb hby at_84) ?_
    show Steps p.tables e below (T181.setTop (mkF m 86 #[.val (.int p1), .unset, .unset, .unset, .unset] [(.int (12 : Int32)), (.ref b1), (.ref b1)])) _
    refine st194 _ ?_
    show Steps p.tables e below (T194.setTop (mkF m 89 #[.val (.int p1), .unset, .unset, .unset, .unset] [(.ref ad12), (.int (12 : Int32)), (.ref b1), (.ref b1)])) _
    refine st209 _ ?_
    show Steps p.tables e below (T209.setTop (mkF m 90 #[.val (.int p1), .unset, .unset, .unset, .unset] [(.ref b1)])) _
    refine XS.dup X209.here hx rfl (hb hby at_90) rfl rfl ?_
    show Steps p.tables e below (T209.setTop (mkF m 91 #[.val (.int p1), .unset, .unset, .unset, .unset] [(.ref b1), (.ref b1)])) _
    refine XS.bipush X209.here hx rfl (hb hby at_91) ?_
    show Steps p.tables e below (T209.setTop (mkF m 93 #[.val (.int p1), .unset, .unset, .unset, .unset] [(.int (13 : Int32)), (.ref b1), (.ref b1)])) _
    refine st223 _ ?_
    show Steps p.tables e below (T223.setTop (mkF m 96 #[.val (.int p1), .unset, .unset, .unset, .unset] [(.ref ad13), (.int (13 : Int32)), (.ref b1), (.ref b1)])) _
    refine st239 _ ?_
    show Steps p.tables e below (T239.setTop (mkF m 97 #[.val (.int p1), .unset, .unset, .unset, .unset] [(.ref b1)])) _
    refine XS.dup X239.here hx rfl (hb hby at_97) rfl rfl ?_
    show Steps p.tables e below (T239.setTop (mkF m 98 #[.val (.int p1), .unset, .unset, .unset, .unset] [(.ref b1), (.ref b1)])) _
    refine XS.bipush X239.here hx rfl (hb hby at_98) ?_
    show Steps p.tables e below (T239.setTop (mkF m 100 #[.val (.int p1), .unset, .unset, .unset, .unset] [(.int (14 : Int32)), (.ref b1), (.ref b1)])) _
    refine st254 _ ?_
    show Steps p.tables e below (T254.setTop (mkF m 103 #[.val (.int p1), .unset, .unset, .unset, .unset] [(.ref ad14), (.int (14 : Int32)), (.ref b1), (.ref b1)])) _
    refine st271 _ ?_
    show Steps p.tables e below (T271.setTop (mkF m 104 #[.val (.int p1), .unset, .unset, .unset, .unset] [(.ref b1)])) _
    refine XS.dup X271.here hx rfl (hb hby at_104) rfl rfl ?_
    show Steps p.tables e below (T271.setTop (mkF m 105 #[.val (.int p1), .unset, .unset, .unset, .unset] [(.ref b1), (.ref b1)])) _
    refine XS.bipush X271.here hx rfl (hb hby at_105) ?_
    show Steps p.tables e below (T271.setTop (mkF m 107 #[.val (.int p1), .unset, .unset, .unset, .unset] [(.int (15 : Int32)), (.ref b1), (.ref b1)])) _
    refine st287 _ ?_
    show Steps p.tables e below (T287.setTop (mkF m 110 #[.val (.int p1), .unset, .unset, .unset, .unset] [(.ref ad15), (.int (15 : Int32)), (.ref b1), (.ref b1)])) _
    refine st305 _ ?_
    show Steps p.tables e below (T305.setTop (mkF m 111 #[.val (.int p1), .unset, .unset, .unset, .unset] [(.ref b1)])) _
    refine XS.dup X305.here hx rfl (hb hby at_111) rfl rfl ?_
    show Steps p.tables e below (T305.setTop (mkF m 112 #[.val (.int p1), .unset, .unset, .unset, .unset] [(.ref b1), (.ref b1)])) _
    refine XS.bipush X305.here hx rfl (hb hby at_112) ?_
    show Steps p.tables e below (T305.setTop (mkF m 114 #[.val (.int p1), .unset, .unset, .unset, .unset] [(.int (16 : Int32)), (.ref b1), (.ref b1)])) _
    refine st322 _ ?_
    show Steps p.tables e below (T322.setTop (mkF m 117 #[.val (.int p1), .unset, .unset, .unset, .unset] [(.ref ad16), (.int (16 : Int32)), (.ref b1), (.ref b1)])) _
    refine st341 _ ?_
    show Steps p.tables e below (T341.setTop (mkF m 118 #[.val (.int p1), .unset, .unset, .unset, .unset] [(.ref b1)])) _
    refine XS.astoreN X341.here hx rfl (hb hby at_118) rfl rfl (l' := #[.val (.int p1), .val (.ref b1), .unset, .unset, .unset]) rfl ?_
    show Steps p.tables e below (T341.setTop (mkF m 119 #[.val (.int p1), .val (.ref b1), .unset, .unset, .unset] [])) _
    refine XS.iloadN X341.here hx rfl (hb hby at_119) rfl ?_
    show Steps p.tables e below (T341.setTop (mkF m 120 #[.val (.int p1), .val (.ref b1), .unset, .unset, .unset] [(.int p1)])) _
    refine X341.ldcInt hx hown (mvT hZ (ow hw 38 rfl)) (g := (mkF m 120 #[.val (.int p1), .val (.ref b1), .unset, .unset, .unset] [(.int p1)])) rfl (hb hby at_120) _ ?_
    show Steps p.tables e below (T341.setTop (mkF m 122 #[.val (.int p1), .val (.ref b1), .unset, .unset, .unset] [(.int (2147483647 : Int32)), (.int p1)])) _
    refine XS.iand X341.here hx rfl (hb hby at_122) rfl ?_
    show Steps p.tables e below (T341.setTop (mkF m 123 #[.val (.int p1), .val (.ref b1), .unset, .unset, .unset] [(.int (p1 &&& (2147483647 : Int32)))])) _
    refine XS.bipush X341.here hx rfl (hb hby at_123) ?_
    show Steps p.tables e below (T341.setTop (mkF m 125 #[.val (.int p1), .val (.ref b1), .unset, .unset, .unset] [(.int (17 : Int32)), (.int (p1 &&& (2147483647 : Int32)))])) _
    refine iremM X341 hx (g := (mkF m 125 #[.val (.int p1), .val (.ref b1), .unset, .unset, .unset] [(.int (17 : Int32)), (.int (p1 &&& (2147483647 : Int32)))])) rfl (hb hby at_125) rfl (by decide) ?_
    show Steps p.tables e below (T341.setTop (mkF m 126 #[.val (.int p1), .val (.ref b1), .unset, .unset, .unset] [(.int ((p1 &&& (2147483647 : Int32)) % (17 : Int32)))])) _
    refine XS.istoreN X341.here hx rfl (hb hby at_126) rfl (l' := #[.val (.int p1), .val (.ref b1), .val (.int ((p1 &&& (2147483647 : Int32)) % (17 : Int32))), .unset, .unset]) rfl ?_
    show Steps p.tables e below (T341.setTop (mkF m 127 #[.val (.int p1), .val (.ref b1), .val (.int ((p1 &&& (2147483647 : Int32)) % (17 : Int32))), .unset, .unset] [])) _
    refine XS.aloadN X341.here hx rfl (hb hby at_127) rfl rfl ?_
    show Steps p.tables e below (T341.setTop (mkF m 128 #[.val (.int p1), .val (.ref b1), .val (.int ((p1 &&& (2147483647 : Int32)) % (17 : Int32))), .unset, .unset] [(.ref b1)])) _
    refine XS.iloadN X341.here hx rfl (hb hby at_128) rfl ?_
    show Steps p.tables e below (T341.setTop (mkF m 129 #[.val (.int p1), .val (.ref b1), .val (.int ((p1 &&& (2147483647 : Int32)) % (17 : Int32))), .unset, .unset] [(.int ((p1 &&& (2147483647 : Int32)) % (17 : Int32))), (.ref b1)])) _
    refine X341.aaload hx (j := ((p1 &&& (2147483647 : Int32)) % (17 : Int32))) (v := (.ref a)) (by rw [e341]; exact Arz359.1) (State.isArrayOf_alike hZ.alike Arz359.2.1) rfl Arz359.2.2 hin360 hat360 (g := (mkF m 129 #[.val (.int p1), .val (.ref b1), .val (.int ((p1 &&& (2147483647 : Int32)) % (17 : Int32))), .unset, .unset] [(.int ((p1 &&& (2147483647 : Int32)) % (17 : Int32))), (.ref b1)])) rfl rfl (hb hby at_129) _ ?_
    show Steps p.tables e below (T341.setTop (mkF m 130 #[.val (.int p1), .val (.ref b1), .val (.int ((p1 &&& (2147483647 : Int32)) % (17 : Int32))), .unset, .unset] [(.ref a)])) _
    refine XS.astoreN X341.here hx rfl (hb hby at_130) rfl rfl (l' := #[.val (.int p1), .val (.ref b1), .val (.int ((p1 &&& (2147483647 : Int32)) % (17 : Int32))), .val (.ref a), .unset]) rfl ?_
    show Steps p.tables e below (T341.setTop (mkF m 131 #[.val (.int p1), .val (.ref b1), .val (.int ((p1 &&& (2147483647 : Int32)) % (17 : Int32))), .val (.ref a), .unset] [])) _
    refine XS.iloadN X341.here hx rfl (hb hby at_131) rfl ?_
    show Steps p.tables e below (T341.setTop (mkF m 132 #[.val (.int p1), .val (.ref b1), .val (.int ((p1 &&& (2147483647 : Int32)) % (17 : Int32))), .val (.ref a), .unset] [(.int ((p1 &&& (2147483647 : Int32)) % (17 : Int32)))])) _
    refine XS.iconst X341.here hx rfl (hb hby at_132) ?_
    show Steps p.tables e below (T341.setTop (mkF m 133 #[.val (.int p1), .val (.ref b1), .val (.int ((p1 &&& (2147483647 : Int32)) % (17 : Int32))), .val (.ref a), .unset] [(.int (4 : Int32)), (.int ((p1 &&& (2147483647 : Int32)) % (17 : Int32)))])) _
    refine XS.icmpNo X341.here hx rfl (hb hby at_133) rfl (feq hc133).1 ?_
    show Steps p.tables e below (T341.setTop (mkF m 136 #[.val (.int p1), .val (.ref b1), .val (.int ((p1 &&& (2147483647 : Int32)) % (17 : Int32))), .val (.ref a), .unset] [])) _
    refine XS.iloadN X341.here hx rfl (hb hby at_136) rfl ?_
    show Steps p.tables e below (T341.setTop (mkF m 137 #[.val (.int p1), .val (.ref b1), .val (.int ((p1 &&& (2147483647 : Int32)) % (17 : Int32))), .val (.ref a), .unset] [(.int ((p1 &&& (2147483647 : Int32)) % (17 : Int32)))])) _
    refine XS.iconst X341.here hx rfl (hb hby at_137) ?_
    show Steps p.tables e below (T341.setTop (mkF m 138 #[.val (.int p1), .val (.ref b1), .val (.int ((p1 &&& (2147483647 : Int32)) % (17 : Int32))), .val (.ref a), .unset] [(.int (5 : Int32)), (.int ((p1 &&& (2147483647 : Int32)) % (17 : Int32)))])) _
    refine XS.icmpYes X341.here hx rfl (pc0 := 138) (pc' := 147) rfl (hb hby at_138) rfl (teq hc138).1 (by decide) (by decide) ?_
    show Steps p.tables e below (T341.setTop (mkF m 147 #[.val (.int p1), .val (.ref b1), .val (.int ((p1 &&& (2147483647 : Int32)) % (17 : Int32))), .val (.ref a), .unset] [])) _
    refine XS.iconst X341.here hx rfl (hb hby at_147) ?_
    show Steps p.tables e below (T341.setTop (mkF m 148 #[.val (.int p1), .val (.ref b1), .val (.int ((p1 &&& (2147483647 : Int32)) % (17 : Int32))), .val (.ref a), .unset] [(.int (1 : Int32))])) _
    refine XS.goto X341.here hx rfl (pc0 := 148) (pc' := 152) rfl (hb hby at_148) (by decide) (by decide) ?_
    show Steps p.tables e below (T341.setTop (mkF m 152 #[.val (.int p1), .val (.ref b1), .val (.int ((p1 &&& (2147483647 : Int32)) % (17 : Int32))), .val (.ref a), .unset] [(.int (1 : Int32))])) _
    refine XS.istore X341.here hx rfl (hb hby at_152) rfl (l' := #[.val (.int p1), .val (.ref b1), .val (.int ((p1 &&& (2147483647 : Int32)) % (17 : Int32))), .val (.ref a), .val (.int (1 : Int32))]) rfl ?_
    show Steps p.tables e below (T341.setTop (mkF m 154 #[.val (.int p1), .val (.ref b1), .val (.int ((p1 &&& (2147483647 : Int32)) % (17 : Int32))), .val (.ref a), .val (.int (1 : Int32))] [])) _
    refine XS.aloadN X341.here hx rfl (hb hby at_154) rfl rfl ?_
    show Steps p.tables e below (T341.setTop (mkF m 155 #[.val (.int p1), .val (.ref b1), .val (.int ((p1 &&& (2147483647 : Int32)) % (17 : Int32))), .val (.ref a), .val (.int (1 : Int32))] [(.ref a)])) _
    refine st397.trans ?_
    show Steps p.tables e below (T397.setTop (mkF m 158 #[.val (.int p1), .val (.ref b1), .val (.int ((p1 &&& (2147483647 : Int32)) % (17 : Int32))), .val (.ref a), .val (.int (1 : Int32))] [(.int (if a = ad4 ∨ a = ad5 ∨ a = ad6 then (1 : Int32) else 0))])) _
    refine XS.iload X397.here hx rfl (hb hby at_158) rfl ?_
    show Steps p.tables e below (T397.setTop (mkF m 160 #[.val (.int p1), .val (.ref b1), .val (.int ((p1 &&& (2147483647 : Int32)) % (17 : Int32))), .val (.ref a), .val (.int (1 : Int32))] [(.int (1 : Int32)), (.int (if a = ad4 ∨ a = ad5 ∨ a = ad6 then (1 : Int32) else 0))])) _
    refine XS.icmpNo X397.here hx rfl (hb hby at_160) rfl (teq hc160).2 ?_
    show Steps p.tables e below (T397.setTop (mkF m 163 #[.val (.int p1), .val (.ref b1), .val (.int ((p1 &&& (2147483647 : Int32)) % (17 : Int32))), .val (.ref a), .val (.int (1 : Int32))] [])) _
    refine XS.iconst X397.here hx rfl (hb hby at_163) ?_
    show Steps p.tables e below (T397.setTop (mkF m 164 #[.val (.int p1), .val (.ref b1), .val (.int ((p1 &&& (2147483647 : Int32)) % (17 : Int32))), .val (.ref a), .val (.int (1 : Int32))] [(.int (1 : Int32))])) _
    refine XS.goto X397.here hx rfl (pc0 := 164) (pc' := 168) rfl (hb hby at_164) (by decide) (by decide) ?_
    show Steps p.tables e below (T397.setTop (mkF m 168 #[.val (.int p1), .val (.ref b1), .val (.int ((p1 &&& (2147483647 : Int32)) % (17 : Int32))), .val (.ref a), .val (.int (1 : Int32))] [(.int (1 : Int32))])) _
    exact retN X397 hx (t := .boolean) Bd.returns (by simp) (hb hby at_168) hr
  · show QF (some (.int (1 : Int32))) h0 n0 _ T397.heap _
    rw [e397]
    exact ⟨rfl, N397⟩
set_option maxRecDepth 65536 in
set_option maxHeartbeats 40000000 in
theorem rm0_fff (l : Launch) (Z : State) (a0 : Array Value) (hw : ∀ d ∈ tables_1, d.before a0 Z = true) (ws : List Jvm.Cond) (p1 : Int32) (kk : Nat) (a : Addr) (ad0 : Addr) (ad1 : Addr) (ad2 : Addr) (ad3 : Addr) (ad4 : Addr) (ad5 : Addr) (ad6 : Addr) (ad7 : Addr) (ad8 : Addr) (ad9 : Addr) (ad10 : Addr) (ad11 : Addr) (ad12 : Addr) (ad13 : Addr) (ad14 : Addr) (ad15 : Addr) (ad16 : Addr) (h0 : Heap) (n0 : Nat) (Z0 : n0 ≤ h0.size) (S0 : Sta Z h0 "com/example/authzlint/authzlint/model/DataType" "STRING" "Lcom/example/authzlint/authzlint/model/DataType;" (.ref ad0)) (S1 : Sta Z h0 "com/example/authzlint/authzlint/model/DataType" "BOOLEAN" "Lcom/example/authzlint/authzlint/model/DataType;" (.ref ad1)) (S2 : Sta Z h0 "com/example/authzlint/authzlint/model/DataType" "INTEGER" "Lcom/example/authzlint/authzlint/model/DataType;" (.ref ad2)) (S3 : Sta Z h0 "com/example/authzlint/authzlint/model/DataType" "DOUBLE" "Lcom/example/authzlint/authzlint/model/DataType;" (.ref ad3)) (S4 : Sta Z h0 "com/example/authzlint/authzlint/model/DataType" "TIME" "Lcom/example/authzlint/authzlint/model/DataType;" (.ref ad4)) (S5 : Sta Z h0 "com/example/authzlint/authzlint/model/DataType" "DATE" "Lcom/example/authzlint/authzlint/model/DataType;" (.ref ad5)) (S6 : Sta Z h0 "com/example/authzlint/authzlint/model/DataType" "DATE_TIME" "Lcom/example/authzlint/authzlint/model/DataType;" (.ref ad6)) (S7 : Sta Z h0 "com/example/authzlint/authzlint/model/DataType" "ANY_URI" "Lcom/example/authzlint/authzlint/model/DataType;" (.ref ad7)) (S8 : Sta Z h0 "com/example/authzlint/authzlint/model/DataType" "HEX_BINARY" "Lcom/example/authzlint/authzlint/model/DataType;" (.ref ad8)) (S9 : Sta Z h0 "com/example/authzlint/authzlint/model/DataType" "BASE64_BINARY" "Lcom/example/authzlint/authzlint/model/DataType;" (.ref ad9)) (S10 : Sta Z h0 "com/example/authzlint/authzlint/model/DataType" "DAY_TIME_DURATION" "Lcom/example/authzlint/authzlint/model/DataType;" (.ref ad10)) (S11 : Sta Z h0 "com/example/authzlint/authzlint/model/DataType" "YEAR_MONTH_DURATION" "Lcom/example/authzlint/authzlint/model/DataType;" (.ref ad11)) (S12 : Sta Z h0 "com/example/authzlint/authzlint/model/DataType" "X500_NAME" "Lcom/example/authzlint/authzlint/model/DataType;" (.ref ad12)) (S13 : Sta Z h0 "com/example/authzlint/authzlint/model/DataType" "RFC822_NAME" "Lcom/example/authzlint/authzlint/model/DataType;" (.ref ad13)) (S14 : Sta Z h0 "com/example/authzlint/authzlint/model/DataType" "IP_ADDRESS" "Lcom/example/authzlint/authzlint/model/DataType;" (.ref ad14)) (S15 : Sta Z h0 "com/example/authzlint/authzlint/model/DataType" "DNS_NAME" "Lcom/example/authzlint/authzlint/model/DataType;" (.ref ad15)) (S16 : Sta Z h0 "com/example/authzlint/authzlint/model/DataType" "XPATH_EXPRESSION" "Lcom/example/authzlint/authzlint/model/DataType;" (.ref ad16)) (Ex0 : Exa Z h0 ad0 "com/example/authzlint/authzlint/model/DataType") (Ex1 : Exa Z h0 ad1 "com/example/authzlint/authzlint/model/DataType") (Ex2 : Exa Z h0 ad2 "com/example/authzlint/authzlint/model/DataType") (Ex3 : Exa Z h0 ad3 "com/example/authzlint/authzlint/model/DataType") (Ex4 : Exa Z h0 ad4 "com/example/authzlint/authzlint/model/DataType") (Ex5 : Exa Z h0 ad5 "com/example/authzlint/authzlint/model/DataType") (Ex6 : Exa Z h0 ad6 "com/example/authzlint/authzlint/model/DataType") (Ex7 : Exa Z h0 ad7 "com/example/authzlint/authzlint/model/DataType") (Ex8 : Exa Z h0 ad8 "com/example/authzlint/authzlint/model/DataType") (Ex9 : Exa Z h0 ad9 "com/example/authzlint/authzlint/model/DataType") (Ex10 : Exa Z h0 ad10 "com/example/authzlint/authzlint/model/DataType") (Ex11 : Exa Z h0 ad11 "com/example/authzlint/authzlint/model/DataType") (Ex12 : Exa Z h0 ad12 "com/example/authzlint/authzlint/model/DataType") (Ex13 : Exa Z h0 ad13 "com/example/authzlint/authzlint/model/DataType") (Ex14 : Exa Z h0 ad14 "com/example/authzlint/authzlint/model/DataType") (Ex15 : Exa Z h0 ad15 "com/example/authzlint/authzlint/model/DataType") (Ex16 : Exa Z h0 ad16 "com/example/authzlint/authzlint/model/DataType") (ExA : Exa Z h0 a "com/example/authzlint/authzlint/model/DataType") (hkk : kk < 17) (hk : ((p1 &&& (2147483647 : Int32)) % (17 : Int32)) = Int32.ofNat kk) (hget : ([(.ref ad0), (.ref ad1), (.ref ad2), (.ref ad3), (.ref ad4), (.ref ad5), (.ref ad6), (.ref ad7), (.ref ad8), (.ref ad9), (.ref ad10), (.ref ad11), (.ref ad12), (.ref ad13), (.ref ad14), (.ref ad15), (.ref ad16)] : List Value).getD kk .null = (.ref a)) (hc133 : ¬ (((p1 &&& (2147483647 : Int32)) % (17 : Int32)) = (4 : Int32))) (hc138 : ¬ (((p1 &&& (2147483647 : Int32)) % (17 : Int32)) = (5 : Int32))) (hc144 : ((p1 &&& (2147483647 : Int32)) % (17 : Int32)) = (6 : Int32)) (hc160 : (if a = ad4 ∨ a = ad5 ∨ a = ad6 then (1 : Int32) else 0) = (1 : Int32)) :
    MetFree l x (head1 (Jvm.Cond.code x code maxLocals ret :: ws) room_1) (fun aa U => aa = #[(.int p1)] ∧ Z.Warmed39 U.vm ∧ U.heap = h0) (fun _ _ _ _ _ => True) (fun _ U o U' => ∃ v L, o = .returned v ∧ QF (some (.int (1 : Int32))) h0 n0 v U'.heap L ∧ FrameEnd U o U' L room_1.cells room_1.slots) := by
  refine MetFree.of_bodySF (plainFor_of_name pn_com_example_authzlint_authzlint_model_DataTypeHasTimeZonesPinLaw) hisR ?_
  intro p e s m args below meth c s₁ Bd hml0 hP hK
  obtain ⟨rfl, hZ, hh⟩ := hP
  have hx := Bd.exec
  have hby := Bd.bytes
  have hml : c.maxLocals = 5 := hml0
  have hown : s.vm.findClass "com/example/authzlint/authzlint/model/DataTypeHasTimeZonesPinLaw" = some m.cls := findClass_of_methodNamed Bd.named
  have hnm := (name_of_methodNamed Bd.named Bd.method).1
  have X0 : Stand p l e room_1 s m #[(.int p1)] below meth c s₁ [] 0 0 := Stand.of_body Bd
  have e0 : s₁.heap = h0 := by rw [← hh, Bd.state]; rfl
  have N0 := Fr.nil n0
  have pre0 : ∀ t, Steps p.tables e below (s₁.setTop (mkF m 0 #[.val (.int p1), .unset, .unset, .unset, .unset] [])) t → Steps p.tables e below (s₁.setTop (entryFrame m #[(.int p1)] maxLocals)) t := fun t k => castTop (ef_0 m p1) k
  obtain ⟨T1, h1, k1, X1, e1, E1, A1, O1, st1⟩ := newR X0 hx hZ hown (ow hw 0 rfl) (ow hw 1 rfl) e0 (g := (mkF m 2 #[.val (.int p1), .unset, .unset, .unset, .unset] [(.int (17 : Int32))])) rfl (hb hby at_2) rfl (by decide) (cap := 17) (by decide) (by decide) (by decide) (by decide)
  obtain ⟨b1, g_b1⟩ : ∃ z, z = h0.size := ⟨_, rfl⟩
  rw [← g_b1] at A1 st1
  have g0_b1 : n0 ≤ b1 := Nat.le_trans Z0 (Nat.le_of_eq g_b1.symm)
  have sz_b1 : h0.size ≤ b1 := Nat.le_trans (Nat.le_refl _) (Nat.le_of_eq g_b1.symm)
  have ne_ad0_b1 : ad0 ≠ b1 := Nat.ne_of_lt (Nat.lt_of_lt_of_le Ex0.lt (Nat.le_of_eq g_b1.symm))
  have ne_ad1_b1 : ad1 ≠ b1 := Nat.ne_of_lt (Nat.lt_of_lt_of_le Ex1.lt (Nat.le_of_eq g_b1.symm))
  have ne_ad2_b1 : ad2 ≠ b1 := Nat.ne_of_lt (Nat.lt_of_lt_of_le Ex2.lt (Nat.le_of_eq g_b1.symm))
  have ne_ad3_b1 : ad3 ≠ b1 := Nat.ne_of_lt (Nat.lt_of_lt_of_le Ex3.lt (Nat.le_of_eq g_b1.symm))
  have ne_ad4_b1 : ad4 ≠ b1 := Nat.ne_of_lt (Nat.lt_of_lt_of_le Ex4.lt (Nat.le_of_eq g_b1.symm))
  have ne_ad5_b1 : ad5 ≠ b1 := Nat.ne_of_lt (Nat.lt_of_lt_of_le Ex5.lt (Nat.le_of_eq g_b1.symm))
  have ne_ad6_b1 : ad6 ≠ b1 := Nat.ne_of_lt (Nat.lt_of_lt_of_le Ex6.lt (Nat.le_of_eq g_b1.symm))
  have ne_ad7_b1 : ad7 ≠ b1 := Nat.ne_of_lt (Nat.lt_of_lt_of_le Ex7.lt (Nat.le_of_eq g_b1.symm))
  have ne_ad8_b1 : ad8 ≠ b1 := Nat.ne_of_lt (Nat.lt_of_lt_of_le Ex8.lt (Nat.le_of_eq g_b1.symm))
  have ne_ad9_b1 : ad9 ≠ b1 := Nat.ne_of_lt (Nat.lt_of_lt_of_le Ex9.lt (Nat.le_of_eq g_b1.symm))
  have ne_ad10_b1 : ad10 ≠ b1 := Nat.ne_of_lt (Nat.lt_of_lt_of_le Ex10.lt (Nat.le_of_eq g_b1.symm))
  have ne_ad11_b1 : ad11 ≠ b1 := Nat.ne_of_lt (Nat.lt_of_lt_of_le Ex11.lt (Nat.le_of_eq g_b1.symm))
  have ne_ad12_b1 : ad12 ≠ b1 := Nat.ne_of_lt (Nat.lt_of_lt_of_le Ex12.lt (Nat.le_of_eq g_b1.symm))
  have ne_ad13_b1 : ad13 ≠ b1 := Nat.ne_of_lt (Nat.lt_of_lt_of_le Ex13.lt (Nat.le_of_eq g_b1.symm))
  have ne_ad14_b1 : ad14 ≠ b1 := Nat.ne_of_lt (Nat.lt_of_lt_of_le Ex14.lt (Nat.le_of_eq g_b1.symm))
  have ne_ad15_b1 : ad15 ≠ b1 := Nat.ne_of_lt (Nat.lt_of_lt_of_le Ex15.lt (Nat.le_of_eq g_b1.symm))
  have ne_ad16_b1 : ad16 ≠ b1 := Nat.ne_of_lt (Nat.lt_of_lt_of_le Ex16.lt (Nat.le_of_eq g_b1.symm))
  have ne_a_b1 : a ≠ b1 := Nat.ne_of_lt (Nat.lt_of_lt_of_le ExA.lt (Nat.le_of_eq g_b1.symm))
  have V_b1 : Arv Z h1 b1 k1 (.object "com/example/authzlint/authzlint/model/DataType") (17 : Int32) [.null, .null, .null, .null, .null, .null, .null, .null, .null, .null, .null, .null, .null, .null, .null, .null, .null] .null := (Arv.new A1 (by decide)).pad (pad_rep [] .null 17)
  have c3 := S0.ext E1
  obtain ⟨T2, X2, e2, st2⟩ := getS2 X1 hx hZ hown (host := "") (Or.inl (ow hw 2 rfl)) Via.refl e1 c3 (g := (mkF m 7 #[.val (.int p1), .unset, .unset, .unset, .unset] [(.int (0 : Int32)), (.ref b1), (.ref b1)])) rfl (hb hby at_7)
  obtain ⟨clz4, Arz4, qz4, Sz4, Nz4, Hz4, Gz4⟩ := V_b1
  have hin5 : ¬ ((0 : Int32) < 0 ∨ clz4.slots.size ≤ ((0 : Int32)).toNatClampNeg) := inb_of Sz4 ⟨by decide, by decide⟩
  have c6 := Ex0.ext E1
  obtain ⟨T5, h5, X5, e5, W5, st5⟩ := stR X2 hx hZ e2 Arz4 (j := (0 : Int32)) hin5 rfl (Sto.ofV Arz4 qz4 O1 (Ins.self c6)) (g := (mkF m 10 #[.val (.int p1), .unset, .unset, .unset, .unset] [(.ref ad0), (.int (0 : Int32)), (.ref b1), (.ref b1)])) rfl rfl (hb hby at_10)
  have V5 : Arv Z h5 b1 k1 (.object "com/example/authzlint/authzlint/model/DataType") (17 : Int32) [(.ref ad0), .null, .null, .null, .null, .null, .null, .null, .null, .null, .null, .null, .null, .null, .null, .null, .null] .null := Arv.set Arz4 qz4 Sz4 Nz4 Hz4 Gz4 rfl W5 0 rfl (Nat.le_of_ble_eq_true rfl)
  have N5 := Fr.snoc X5 N0 g0_b1
  have c8 := S1.ext E1
  have c9 := c8.wr W5
  obtain ⟨T7, X7, e7, st7⟩ := getS2 X5 hx hZ hown (host := "") (Or.inl (ow hw 6 rfl)) Via.refl e5 c9 (g := (mkF m 13 #[.val (.int p1), .unset, .unset, .unset, .unset] [(.int (1 : Int32)), (.ref b1), (.ref b1)])) rfl (hb hby at_13)
  obtain ⟨clz10, Arz10, qz10, Sz10, Nz10, Hz10, Gz10⟩ := V5
  have hin11 : ¬ ((1 : Int32) < 0 ∨ clz10.slots.size ≤ ((1 : Int32)).toNatClampNeg) := inb_of Sz10 ⟨by decide, by decide⟩
  have c12 := Ex1.ext E1
  have c13 := c12.wr W5
  obtain ⟨T11, h11, X11, e11, W11, st11⟩ := stR X7 hx hZ e7 Arz10 (j := (1 : Int32)) hin11 rfl (Sto.ofV Arz10 qz10 O1 (Ins.self c13)) (g := (mkF m 16 #[.val (.int p1), .unset, .unset, .unset, .unset] [(.ref ad1), (.int (1 : Int32)), (.ref b1), (.ref b1)])) rfl rfl (hb hby at_16)
  have V11 : Arv Z h11 b1 k1 (.object "com/example/authzlint/authzlint/model/DataType") (17 : Int32) [(.ref ad0), (.ref ad1), .null, .null, .null, .null, .null, .null, .null, .null, .null, .null, .null, .null, .null, .null, .null] .null := Arv.set Arz10 qz10 Sz10 Nz10 Hz10 Gz10 rfl W11 1 rfl (Nat.le_of_ble_eq_true rfl)
  have N11 := Fr.snoc X11 N5 g0_b1
  have c15 := S2.ext E1
  have c16 := c15.wr W5
  have c17 := c16.wr W11
  obtain ⟨T14, X14, e14, st14⟩ := getS2 X11 hx hZ hown (host := "") (Or.inl (ow hw 8 rfl)) Via.refl e11 c17 (g := (mkF m 19 #[.val (.int p1), .unset, .unset, .unset, .unset] [(.int (2 : Int32)), (.ref b1), (.ref b1)])) rfl (hb hby at_19)
  obtain ⟨clz18, Arz18, qz18, Sz18, Nz18, Hz18, Gz18⟩ := V11
  have hin19 : ¬ ((2 : Int32) < 0 ∨ clz18.slots.size ≤ ((2 : Int32)).toNatClampNeg) := inb_of Sz18 ⟨by decide, by decide⟩
  have c20 := Ex2.ext E1
  have c21 := c20.wr W5
  have c22 := c21.wr W11
  obtain ⟨T19, h19, X19, e19, W19, st19⟩ := stR X14 hx hZ e14 Arz18 (j := (2 : Int32)) hin19 rfl (Sto.ofV Arz18 qz18 O1 (Ins.self c22)) (g := (mkF m 22 #[.val (.int p1), .unset, .unset, .unset, .unset] [(.ref ad2), (.int (2 : Int32)), (.ref b1), (.ref b1)])) rfl rfl (hb hby at_22)
  have V19 : Arv Z h19 b1 k1 (.object "com/example/authzlint/authzlint/model/DataType") (17 : Int32) [(.ref ad0), (.ref ad1), (.ref ad2), .null, .null, .null, .null, .null, .null, .null, .null, .null, .null, .null, .null, .null, .null] .null := Arv.set Arz18 qz18 Sz18 Nz18 Hz18 Gz18 rfl W19 2 rfl (Nat.le_of_ble_eq_true rfl)
  have N19 := Fr.snoc X19 N11 g0_b1
  have c24 := S3.ext E1
  have c25 := c24.wr W5
  have c26 := c25.wr W11
  have c27 := c26.wr W19
  obtain ⟨T23, X23, e23, st23⟩ := getS2 X19 hx hZ hown (host := "") (Or.inl (ow hw 10 rfl)) Via.refl e19 c27 (g := (mkF m 25 #[.val (.int p1), .unset, .unset, .unset, .unset] [(.int (3 : Int32)), (.ref b1), (.ref b1)])) rfl (hb hby at_25)
  obtain ⟨clz28, Arz28, qz28, Sz28, Nz28, Hz28, Gz28⟩ := V19
  have hin29 : ¬ ((3 : Int32) < 0 ∨ clz28.slots.size ≤ ((3 : Int32)).toNatClampNeg) := inb_of Sz28 ⟨by decide, by decide⟩
  have c30 := Ex3.ext E1
  have c31 := c30.wr W5
  have c32 := c31.wr W11
  have c33 := c32.wr W19
  obtain ⟨T29, h29, X29, e29, W29, st29⟩ := stR X23 hx hZ e23 Arz28 (j := (3 : Int32)) hin29 rfl (Sto.ofV Arz28 qz28 O1 (Ins.self c33)) (g := (mkF m 28 #[.val (.int p1), .unset, .unset, .unset, .unset] [(.ref ad3), (.int (3 : Int32)), (.ref b1), (.ref b1)])) rfl rfl (hb hby at_28)
  have V29 : Arv Z h29 b1 k1 (.object "com/example/authzlint/authzlint/model/DataType") (17 : Int32) [(.ref ad0), (.ref ad1), (.ref ad2), (.ref ad3), .null, .null, .null, .null, .null, .null, .null, .null, .null, .null, .null, .null, .null] .null := Arv.set Arz28 qz28 Sz28 Nz28 Hz28 Gz28 rfl W29 3 rfl (Nat.le_of_ble_eq_true rfl)
  have N29 := Fr.snoc X29 N19 g0_b1
  have c35 := S4.ext E1
  have c36 := c35.wr W5
  have c37 := c36.wr W11
  have c38 := c37.wr W19
  have c39 := c38.wr W29
  obtain ⟨T34, X34, e34, st34⟩ := getS2 X29 hx hZ hown (host := "") (Or.inl (ow hw 12 rfl)) Via.refl e29 c39 (g := (mkF m 31 #[.val (.int p1), .unset, .unset, .unset, .unset] [(.int (4 : Int32)), (.ref b1), (.ref b1)])) rfl (hb hby at_31)
  obtain ⟨clz40, Arz40, qz40, Sz40, Nz40, Hz40, Gz40⟩ := V29
  have hin41 : ¬ ((4 : Int32) < 0 ∨ clz40.slots.size ≤ ((4 : Int32)).toNatClampNeg) := inb_of Sz40 ⟨by decide, by decide⟩
  have c42 := Ex4.ext E1
  have c43 := c42.wr W5
  have c44 := c43.wr W11
  have c45 := c44.wr W19
  have c46 := c45.wr W29
  obtain ⟨T41, h41, X41, e41, W41, st41⟩ := stR X34 hx hZ e34 Arz40 (j := (4 : Int32)) hin41 rfl (Sto.ofV Arz40 qz40 O1 (Ins.self c46)) (g := (mkF m 34 #[.val (.int p1), .unset, .unset, .unset, .unset] [(.ref ad4), (.int (4 : Int32)), (.ref b1), (.ref b1)])) rfl rfl (hb hby at_34)
  have V41 : Arv Z h41 b1 k1 (.object "com/example/authzlint/authzlint/model/DataType") (17 : Int32) [(.ref ad0), (.ref ad1), (.ref ad2), (.ref ad3), (.ref ad4), .null, .null, .null, .null, .null, .null, .null, .null, .null, .null, .null, .null] .null := Arv.set Arz40 qz40 Sz40 Nz40 Hz40 Gz40 rfl W41 4 rfl (Nat.le_of_ble_eq_true rfl)
  have N41 := Fr.snoc X41 N29 g0_b1
  have c48 := S5.ext E1
  have c49 := c48.wr W5
  have c50 := c49.wr W11
  have c51 := c50.wr W19
  have c52 := c51.wr W29
  have c53 := c52.wr W41
  obtain ⟨T47, X47, e47, st47⟩ := getS2 X41 hx hZ hown (host := "") (Or.inl (ow hw 14 rfl)) Via.refl e41 c53 (g := (mkF m 37 #[.val (.int p1), .unset, .unset, .unset, .unset] [(.int (5 : Int32)), (.ref b1), (.ref b1)])) rfl (hb hby at_37)
  obtain ⟨clz54, Arz54, qz54, Sz54, Nz54, Hz54, Gz54⟩ := V41
  have hin55 : ¬ ((5 : Int32) < 0 ∨ clz54.slots.size ≤ ((5 : Int32)).toNatClampNeg) := inb_of Sz54 ⟨by decide, by decide⟩
  have c56 := Ex5.ext E1
  have c57 := c56.wr W5
  have c58 := c57.wr W11
  have c59 := c58.wr W19
  have c60 := c59.wr W29
  have c61 := c60.wr W41
  obtain ⟨T55, h55, X55, e55, W55, st55⟩ := stR X47 hx hZ e47 Arz54 (j := (5 : Int32)) hin55 rfl (Sto.ofV Arz54 qz54 O1 (Ins.self c61)) (g := (mkF m 40 #[.val (.int p1), .unset, .unset, .unset, .unset] [(.ref ad5), (.int (5 : Int32)), (.ref b1), (.ref b1)])) rfl rfl (hb hby at_40)
  have V55 : Arv Z h55 b1 k1 (.object "com/example/authzlint/authzlint/model/DataType") (17 : Int32) [(.ref ad0), (.ref ad1), (.ref ad2), (.ref ad3), (.ref ad4), (.ref ad5), .null, .null, .null, .null, .null, .null, .null, .null, .null, .null, .null] .null := Arv.set Arz54 qz54 Sz54 Nz54 Hz54 Gz54 rfl W55 5 rfl (Nat.le_of_ble_eq_true rfl)
  have N55 := Fr.snoc X55 N41 g0_b1
  have c63 := S6.ext E1
  have c64 := c63.wr W5
  have c65 := c64.wr W11
  have c66 := c65.wr W19
  have c67 := c66.wr W29
  have c68 := c67.wr W41
  have c69 := c68.wr W55
  obtain ⟨T62, X62, e62, st62⟩ := getS2 X55 hx hZ hown (host := "") (Or.inl (ow hw 16 rfl)) Via.refl e55 c69 (g := (mkF m 44 #[.val (.int p1), .unset, .unset, .unset, .unset] [(.int (6 : Int32)), (.ref b1), (.ref b1)])) rfl (hb hby at_44)
  obtain ⟨clz70, Arz70, qz70, Sz70, Nz70, Hz70, Gz70⟩ := V55
  have hin71 : ¬ ((6 : Int32) < 0 ∨ clz70.slots.size ≤ ((6 : Int32)).toNatClampNeg) := inb_of Sz70 ⟨by decide, by decide⟩
  have c72 := Ex6.ext E1
  have c73 := c72.wr W5
  have c74 := c73.wr W11
  have c75 := c74.wr W19
  have c76 := c75.wr W29
  have c77 := c76.wr W41
  have c78 := c77.wr W55
  obtain ⟨T71, h71, X71, e71, W71, st71⟩ := stR X62 hx hZ e62 Arz70 (j := (6 : Int32)) hin71 rfl (Sto.ofV Arz70 qz70 O1 (Ins.self c78)) (g := (mkF m 47 #[.val (.int p1), .unset, .unset, .unset, .unset] [(.ref ad6), (.int (6 : Int32)), (.ref b1), (.ref b1)])) rfl rfl (hb hby at_47)
  have V71 : Arv Z h71 b1 k1 (.object "com/example/authzlint/authzlint/model/DataType") (17 : Int32) [(.ref ad0), (.ref ad1), (.ref ad2), (.ref ad3), (.ref ad4), (.ref ad5), (.ref ad6), .null, .null, .null, .null, .null, .null, .null, .null, .null, .null] .null := Arv.set Arz70 qz70 Sz70 Nz70 Hz70 Gz70 rfl W71 6 rfl (Nat.le_of_ble_eq_true rfl)
  have N71 := Fr.snoc X71 N55 g0_b1
  have c80 := S7.ext E1
  have c81 := c80.wr W5
  have c82 := c81.wr W11
  have c83 := c82.wr W19
  have c84 := c83.wr W29
  have c85 := c84.wr W41
  have c86 := c85.wr W55
  have c87 := c86.wr W71
  obtain ⟨T79, X79, e79, st79⟩ := getS2 X71 hx hZ hown (host := "") (Or.inl (ow hw 18 rfl)) Via.refl e71 c87 (g := (mkF m 51 #[.val (.int p1), .unset, .unset, .unset, .unset] [(.int (7 : Int32)), (.ref b1), (.ref b1)])) rfl (hb hby at_51)
  obtain ⟨clz88, Arz88, qz88, Sz88, Nz88, Hz88, Gz88⟩ := V71
  have hin89 : ¬ ((7 : Int32) < 0 ∨ clz88.slots.size ≤ ((7 : Int32)).toNatClampNeg) := inb_of Sz88 ⟨by decide, by decide⟩
  have c90 := Ex7.ext E1
  have c91 := c90.wr W5
  have c92 := c91.wr W11
  have c93 := c92.wr W19
  have c94 := c93.wr W29
  have c95 := c94.wr W41
  have c96 := c95.wr W55
  have c97 := c96.wr W71
  obtain ⟨T89, h89, X89, e89, W89, st89⟩ := stR X79 hx hZ e79 Arz88 (j := (7 : Int32)) hin89 rfl (Sto.ofV Arz88 qz88 O1 (Ins.self c97)) (g := (mkF m 54 #[.val (.int p1), .unset, .unset, .unset, .unset] [(.ref ad7), (.int (7 : Int32)), (.ref b1), (.ref b1)])) rfl rfl (hb hby at_54)
  have V89 : Arv Z h89 b1 k1 (.object "com/example/authzlint/authzlint/model/DataType") (17 : Int32) [(.ref ad0), (.ref ad1), (.ref ad2), (.ref ad3), (.ref ad4), (.ref ad5), (.ref ad6), (.ref ad7), .null, .null, .null, .null, .null, .null, .null, .null, .null] .null := Arv.set Arz88 qz88 Sz88 Nz88 Hz88 Gz88 rfl W89 7 rfl (Nat.le_of_ble_eq_true rfl)
  have N89 := Fr.snoc X89 N71 g0_b1
  have c99 := S8.ext E1
  have c100 := c99.wr W5
  have c101 := c100.wr W11
  have c102 := c101.wr W19
  have c103 := c102.wr W29
  have c104 := c103.wr W41
  have c105 := c104.wr W55
  have c106 := c105.wr W71
  have c107 := c106.wr W89
  obtain ⟨T98, X98, e98, st98⟩ := getS2 X89 hx hZ hown (host := "") (Or.inl (ow hw 20 rfl)) Via.refl e89 c107 (g := (mkF m 58 #[.val (.int p1), .unset, .unset, .unset, .unset] [(.int (8 : Int32)), (.ref b1), (.ref b1)])) rfl (hb hby at_58)
  obtain ⟨clz108, Arz108, qz108, Sz108, Nz108, Hz108, Gz108⟩ := V89
  have hin109 : ¬ ((8 : Int32) < 0 ∨ clz108.slots.size ≤ ((8 : Int32)).toNatClampNeg) := inb_of Sz108 ⟨by decide, by decide⟩
  have c110 := Ex8.ext E1
  have c111 := c110.wr W5
  have c112 := c111.wr W11
  have c113 := c112.wr W19
  have c114 := c113.wr W29
  have c115 := c114.wr W41
  have c116 := c115.wr W55
  have c117 := c116.wr W71
  have c118 := c117.wr W89
  obtain ⟨T109, h109, X109, e109, W109, st109⟩ := stR X98 hx hZ e98 Arz108 (j := (8 : Int32)) hin109 rfl (Sto.ofV Arz108 qz108 O1 (Ins.self c118)) (g := (mkF m 61 #[.val (.int p1), .unset, .unset, .unset, .unset] [(.ref ad8), (.int (8 : Int32)), (.ref b1), (.ref b1)])) rfl rfl (hb hby at_61)
  have V109 : Arv Z h109 b1 k1 (.object "com/example/authzlint/authzlint/model/DataType") (17 : Int32) [(.ref ad0), (.ref ad1), (.ref ad2), (.ref ad3), (.ref ad4), (.ref ad5), (.ref ad6), (.ref ad7), (.ref ad8), .null, .null, .null, .null, .null, .null, .null, .null] .null := Arv.set Arz108 qz108 Sz108 Nz108 Hz108 Gz108 rfl W109 8 rfl (Nat.le_of_ble_eq_true rfl)
  have N109 := Fr.snoc X109 N89 g0_b1
  have c120 := S9.ext E1
  have c121 := c120.wr W5
  have c122 := c121.wr W11
  have c123 := c122.wr W19
  have c124 := c123.wr W29
  have c125 := c124.wr W41
  have c126 := c125.wr W55
  have c127 := c126.wr W71
  have c128 := c127.wr W89
  have c129 := c128.wr W109
  obtain ⟨T119, X119, e119, st119⟩ := getS2 X109 hx hZ hown (host := "") (Or.inl (ow hw 22 rfl)) Via.refl e109 c129 (g := (mkF m 65 #[.val (.int p1), .unset, .unset, .unset, .unset] [(.int (9 : Int32)), (.ref b1), (.ref b1)])) rfl (hb hby at_65)
  obtain ⟨clz130, Arz130, qz130, Sz130, Nz130, Hz130, Gz130⟩ := V109
  have hin131 : ¬ ((9 : Int32) < 0 ∨ clz130.slots.size ≤ ((9 : Int32)).toNatClampNeg) := inb_of Sz130 ⟨by decide, by decide⟩
  have c132 := Ex9.ext E1
  have c133 := c132.wr W5
  have c134 := c133.wr W11
  have c135 := c134.wr W19
  have c136 := c135.wr W29
  have c137 := c136.wr W41
  have c138 := c137.wr W55
  have c139 := c138.wr W71
  have c140 := c139.wr W89
  have c141 := c140.wr W109
  obtain ⟨T131, h131, X131, e131, W131, st131⟩ := stR X119 hx hZ e119 Arz130 (j := (9 : Int32)) hin131 rfl (Sto.ofV Arz130 qz130 O1 (Ins.self c141)) (g := (mkF m 68 #[.val (.int p1), .unset, .unset, .unset, .unset] [(.ref ad9), (.int (9 : Int32)), (.ref b1), (.ref b1)])) rfl rfl (hb hby at_68)
  have V131 : Arv Z h131 b1 k1 (.object "com/example/authzlint/authzlint/model/DataType") (17 : Int32) [(.ref ad0), (.ref ad1), (.ref ad2), (.ref ad3), (.ref ad4), (.ref ad5), (.ref ad6), (.ref ad7), (.ref ad8), (.ref ad9), .null, .null, .null, .null, .null, .null, .null] .null := Arv.set Arz130 qz130 Sz130 Nz130 Hz130 Gz130 rfl W131 9 rfl (Nat.le_of_ble_eq_true rfl)
  have N131 := Fr.snoc X131 N109 g0_b1
  have c143 := S10.ext E1
  have c144 := c143.wr W5
  have c145 := c144.wr W11
  have c146 := c145.wr W19
  have c147 := c146.wr W29
  have c148 := c147.wr W41
  have c149 := c148.wr W55
  have c150 := c149.wr W71
  have c151 := c150.wr W89
  have c152 := c151.wr W109
  have c153 := c152.wr W131
  obtain ⟨T142, X142, e142, st142⟩ := getS2 X131 hx hZ hown (host := "") (Or.inl (ow hw 24 rfl)) Via.refl e131 c153 (g := (mkF m 72 #[.val (.int p1), .unset, .unset, .unset, .unset] [(.int (10 : Int32)), (.ref b1), (.ref b1)])) rfl (hb hby at_72)
  obtain ⟨clz154, Arz154, qz154, Sz154, Nz154, Hz154, Gz154⟩ := V131
  have hin155 : ¬ ((10 : Int32) < 0 ∨ clz154.slots.size ≤ ((10 : Int32)).toNatClampNeg) := inb_of Sz154 ⟨by decide, by decide⟩
  have c156 := Ex10.ext E1
  have c157 := c156.wr W5
  have c158 := c157.wr W11
  have c159 := c158.wr W19
  have c160 := c159.wr W29
  have c161 := c160.wr W41
  have c162 := c161.wr W55
  have c163 := c162.wr W71
  have c164 := c163.wr W89
  have c165 := c164.wr W109
  have c166 := c165.wr W131
  obtain ⟨T155, h155, X155, e155, W155, st155⟩ := stR X142 hx hZ e142 Arz154 (j := (10 : Int32)) hin155 rfl (Sto.ofV Arz154 qz154 O1 (Ins.self c166)) (g := (mkF m 75 #[.val (.int p1), .unset, .unset, .unset, .unset] [(.ref ad10), (.int (10 : Int32)), (.ref b1), (.ref b1)])) rfl rfl (hb hby at_75)
  have V155 : Arv Z h155 b1 k1 (.object "com/example/authzlint/authzlint/model/DataType") (17 : Int32) [(.ref ad0), (.ref ad1), (.ref ad2), (.ref ad3), (.ref ad4), (.ref ad5), (.ref ad6), (.ref ad7), (.ref ad8), (.ref ad9), (.ref ad10), .null, .null, .null, .null, .null, .null] .null := Arv.set Arz154 qz154 Sz154 Nz154 Hz154 Gz154 rfl W155 10 rfl (Nat.le_of_ble_eq_true rfl)
  have N155 := Fr.snoc X155 N131 g0_b1
  have c168 := S11.ext E1
  have c169 := c168.wr W5
  have c170 := c169.wr W11
  have c171 := c170.wr W19
  have c172 := c171.wr W29
  have c173 := c172.wr W41
  have c174 := c173.wr W55
  have c175 := c174.wr W71
  have c176 := c175.wr W89
  have c177 := c176.wr W109
  have c178 := c177.wr W131
  have c179 := c178.wr W155
  obtain ⟨T167, X167, e167, st167⟩ := getS2 X155 hx hZ hown (host := "") (Or.inl (ow hw 26 rfl)) Via.refl e155 c179 (g := (mkF m 79 #[.val (.int p1), .unset, .unset, .unset, .unset] [(.int (11 : Int32)), (.ref b1), (.ref b1)])) rfl (hb hby at_79)
  obtain ⟨clz180, Arz180, qz180, Sz180, Nz180, Hz180, Gz180⟩ := V155
  have hin181 : ¬ ((11 : Int32) < 0 ∨ clz180.slots.size ≤ ((11 : Int32)).toNatClampNeg) := inb_of Sz180 ⟨by decide, by decide⟩
  have c182 := Ex11.ext E1
  have c183 := c182.wr W5
  have c184 := c183.wr W11
  have c185 := c184.wr W19
  have c186 := c185.wr W29
  have c187 := c186.wr W41
  have c188 := c187.wr W55
  have c189 := c188.wr W71
  have c190 := c189.wr W89
  have c191 := c190.wr W109
  have c192 := c191.wr W131
  have c193 := c192.wr W155
  obtain ⟨T181, h181, X181, e181, W181, st181⟩ := stR X167 hx hZ e167 Arz180 (j := (11 : Int32)) hin181 rfl (Sto.ofV Arz180 qz180 O1 (Ins.self c193)) (g := (mkF m 82 #[.val (.int p1), .unset, .unset, .unset, .unset] [(.ref ad11), (.int (11 : Int32)), (.ref b1), (.ref b1)])) rfl rfl (hb hby at_82)
  have V181 : Arv Z h181 b1 k1 (.object "com/example/authzlint/authzlint/model/DataType") (17 : Int32) [(.ref ad0), (.ref ad1), (.ref ad2), (.ref ad3), (.ref ad4), (.ref ad5), (.ref ad6), (.ref ad7), (.ref ad8), (.ref ad9), (.ref ad10), (.ref ad11), .null, .null, .null, .null, .null] .null := Arv.set Arz180 qz180 Sz180 Nz180 Hz180 Gz180 rfl W181 11 rfl (Nat.le_of_ble_eq_true rfl)
  have N181 := Fr.snoc X181 N155 g0_b1
  have c195 := S12.ext E1
  have c196 := c195.wr W5
  have c197 := c196.wr W11
  have c198 := c197.wr W19
  have c199 := c198.wr W29
  have c200 := c199.wr W41
  have c201 := c200.wr W55
  have c202 := c201.wr W71
  have c203 := c202.wr W89
  have c204 := c203.wr W109
  have c205 := c204.wr W131
  have c206 := c205.wr W155
  have c207 := c206.wr W181
  obtain ⟨T194, X194, e194, st194⟩ := getS2 X181 hx hZ hown (host := "") (Or.inl (ow hw 28 rfl)) Via.refl e181 c207 (g := (mkF m 86 #[.val (.int p1), .unset, .unset, .unset, .unset] [(.int (12 : Int32)), (.ref b1), (.ref b1)])) rfl (hb hby at_86)
  obtain ⟨clz208, Arz208, qz208, Sz208, Nz208, Hz208, Gz208⟩ := V181
  have hin209 : ¬ ((12 : Int32) < 0 ∨ clz208.slots.size ≤ ((12 : Int32)).toNatClampNeg) := inb_of Sz208 ⟨by decide, by decide⟩
  have c210 := Ex12.ext E1
  have c211 := c210.wr W5
  have c212 := c211.wr W11
  have c213 := c212.wr W19
  have c214 := c213.wr W29
  have c215 := c214.wr W41
  have c216 := c215.wr W55
  have c217 := c216.wr W71
  have c218 := c217.wr W89
  have c219 := c218.wr W109
  have c220 := c219.wr W131
  have c221 := c220.wr W155
  have c222 := c221.wr W181
  obtain ⟨T209, h209, X209, e209, W209, st209⟩ := stR X194 hx hZ e194 Arz208 (j := (12 : Int32)) hin209 rfl (Sto.ofV Arz208 qz208 O1 (Ins.self c222)) (g := (mkF m 89 #[.val (.int p1), .unset, .unset, .unset, .unset] [(.ref ad12), (.int (12 : Int32)), (.ref b1), (.ref b1)])) rfl rfl (hb hby at_89)
  have V209 : Arv Z h209 b1 k1 (.object "com/example/authzlint/authzlint/model/DataType") (17 : Int32) [(.ref ad0), (.ref ad1), (.ref ad2), (.ref ad3), (.ref ad4), (.ref ad5), (.ref ad6), (.ref ad7), (.ref ad8), (.ref ad9), (.ref ad10), (.ref ad11), (.ref ad12), .null, .null, .null, .null] .null := Arv.set Arz208 qz208 Sz208 Nz208 Hz208 Gz208 rfl W209 12 rfl (Nat.le_of_ble_eq_true rfl)
  have N209 := Fr.snoc X209 N181 g0_b1
  have c224 := S13.ext E1
  have c225 := c224.wr W5
  have c226 := c225.wr W11
  have c227 := c226.wr W19
  have c228 := c227.wr W29
  have c229 := c228.wr W41
  have c230 := c229.wr W55
  have c231 := c230.wr W71
  have c232 := c231.wr W89
  have c233 := c232.wr W109
  have c234 := c233.wr W131
  have c235 := c234.wr W155
  have c236 := c235.wr W181
  have c237 := c236.wr W209
  obtain ⟨T223, X223, e223, st223⟩ := getS2 X209 hx hZ hown (host := "") (Or.inl (ow hw 30 rfl)) Via.refl e209 c237 (g := (mkF m 93 #[.val (.int p1), .unset, .unset, .unset, .unset] [(.int (13 : Int32)), (.ref b1), (.ref b1)])) rfl (hb hby at_93)
  obtain ⟨clz238, Arz238, qz238, Sz238, Nz238, Hz238, Gz238⟩ := V209
  have hin239 : ¬ ((13 : Int32) < 0 ∨ clz238.slots.size ≤ ((13 : Int32)).toNatClampNeg) := inb_of Sz238 ⟨by decide, by decide⟩
  have c240 := Ex13.ext E1
  have c241 := c240.wr W5
  have c242 := c241.wr W11
  have c243 := c242.wr W19
  have c244 := c243.wr W29
  have c245 := c244.wr W41
  have c246 := c245.wr W55
  have c247 := c246.wr W71
  have c248 := c247.wr W89
  have c249 := c248.wr W109
  have c250 := c249.wr W131
  have c251 := c250.wr W155
  have c252 := c251.wr W181
  have c253 := c252.wr W209
  obtain ⟨T239, h239, X239, e239, W239, st239⟩ := stR X223 hx hZ e223 Arz238 (j := (13 : Int32)) hin239 rfl (Sto.ofV Arz238 qz238 O1 (Ins.self c253)) (g := (mkF m 96 #[.val (.int p1), .unset, .unset, .unset, .unset] [(.ref ad13), (.int (13 : Int32)), (.ref b1), (.ref b1)])) rfl rfl (hb hby at_96)
  have V239 : Arv Z h239 b1 k1 (.object "com/example/authzlint/authzlint/model/DataType") (17 : Int32) [(.ref ad0), (.ref ad1), (.ref ad2), (.ref ad3), (.ref ad4), (.ref ad5), (.ref ad6), (.ref ad7), (.ref ad8), (.ref ad9), (.ref ad10), (.ref ad11), (.ref ad12), (.ref ad13), .null, .null, .null] .null := Arv.set Arz238 qz238 Sz238 Nz238 Hz238 Gz238 rfl W239 13 rfl (Nat.le_of_ble_eq_true rfl)
  have N239 := Fr.snoc X239 N209 g0_b1
  have c255 := S14.ext E1
  have c256 := c255.wr W5
  have c257 := c256.wr W11
  have c258 := c257.wr W19
  have c259 := c258.wr W29
  have c260 := c259.wr W41
  have c261 := c260.wr W55
  have c262 := c261.wr W71
  have c263 := c262.wr W89
  have c264 := c263.wr W109
  have c265 := c264.wr W131
  have c266 := c265.wr W155
  have c267 := c266.wr W181
  have c268 := c267.wr W209
  have c269 := c268.wr W239
  obtain ⟨T254, X254, e254, st254⟩ := getS2 X239 hx hZ hown (host := "") (Or.inl (ow hw 32 rfl)) Via.refl e239 c269 (g := (mkF m 100 #[.val (.int p1), .unset, .unset, .unset, .unset] [(.int (14 : Int32)), (.ref b1), (.ref b1)])) rfl (hb hby at_100)
  obtain ⟨clz270, Arz270, qz270, Sz270, Nz270, Hz270, Gz270⟩ := V239
  have hin271 : ¬ ((14 : Int32) < 0 ∨ clz270.slots.size ≤ ((14 : Int32)).toNatClampNeg) := inb_of Sz270 ⟨by decide, by decide⟩
  have c272 := Ex14.ext E1
  have c273 := c272.wr W5
  have c274 := c273.wr W11
  have c275 := c274.wr W19
  have c276 := c275.wr W29
  have c277 := c276.wr W41
  have c278 := c277.wr W55
  have c279 := c278.wr W71
  have c280 := c279.wr W89
  have c281 := c280.wr W109
  have c282 := c281.wr W131
  have c283 := c282.wr W155
  have c284 := c283.wr W181
  have c285 := c284.wr W209
  have c286 := c285.wr W239
  obtain ⟨T271, h271, X271, e271, W271, st271⟩ := stR X254 hx hZ e254 Arz270 (j := (14 : Int32)) hin271 rfl (Sto.ofV Arz270 qz270 O1 (Ins.self c286)) (g := (mkF m 103 #[.val (.int p1), .unset, .unset, .unset, .unset] [(.ref ad14), (.int (14 : Int32)), (.ref b1), (.ref b1)])) rfl rfl (hb hby at_103)
  have V271 : Arv Z h271 b1 k1 (.object "com/example/authzlint/authzlint/model/DataType") (17 : Int32) [(.ref ad0), (.ref ad1), (.ref ad2), (.ref ad3), (.ref ad4), (.ref ad5), (.ref ad6), (.ref ad7), (.ref ad8), (.ref ad9), (.ref ad10), (.ref ad11), (.ref ad12), (.ref ad13), (.ref ad14), .null, .null] .null := Arv.set Arz270 qz270 Sz270 Nz270 Hz270 Gz270 rfl W271 14 rfl (Nat.le_of_ble_eq_true rfl)
  have N271 := Fr.snoc X271 N239 g0_b1
  have c288 := S15.ext E1
  have c289 := c288.wr W5
  have c290 := c289.wr W11
  have c291 := c290.wr W19
  have c292 := c291.wr W29
  have c293 := c292.wr W41
  have c294 := c293.wr W55
  have c295 := c294.wr W71
  have c296 := c295.wr W89
  have c297 := c296.wr W109
  have c298 := c297.wr W131
  have c299 := c298.wr W155
  have c300 := c299.wr W181
  have c301 := c300.wr W209
  have c302 := c301.wr W239
  have c303 := c302.wr W271
  obtain ⟨T287, X287, e287, st287⟩ := getS2 X271 hx hZ hown (host := "") (Or.inl (ow hw 34 rfl)) Via.refl e271 c303 (g := (mkF m 107 #[.val (.int p1), .unset, .unset, .unset, .unset] [(.int (15 : Int32)), (.ref b1), (.ref b1)])) rfl (hb hby at_107)
  obtain ⟨clz304, Arz304, qz304, Sz304, Nz304, Hz304, Gz304⟩ := V271
  have hin305 : ¬ ((15 : Int32) < 0 ∨ clz304.slots.size ≤ ((15 : Int32)).toNatClampNeg) := inb_of Sz304 ⟨by decide, by decide⟩
  have c306 := Ex15.ext E1
  have c307 := c306.wr W5
  have c308 := c307.wr W11
  have c309 := c308.wr W19
  have c310 := c309.wr W29
  have c311 := c310.wr W41
  have c312 := c311.wr W55
  have c313 := c312.wr W71
  have c314 := c313.wr W89
  have c315 := c314.wr W109
  have c316 := c315.wr W131
  have c317 := c316.wr W155
  have c318 := c317.wr W181
  have c319 := c318.wr W209
  have c320 := c319.wr W239
  have c321 := c320.wr W271
  obtain ⟨T305, h305, X305, e305, W305, st305⟩ := stR X287 hx hZ e287 Arz304 (j := (15 : Int32)) hin305 rfl (Sto.ofV Arz304 qz304 O1 (Ins.self c321)) (g := (mkF m 110 #[.val (.int p1), .unset, .unset, .unset, .unset] [(.ref ad15), (.int (15 : Int32)), (.ref b1), (.ref b1)])) rfl rfl (hb hby at_110)
  have V305 : Arv Z h305 b1 k1 (.object "com/example/authzlint/authzlint/model/DataType") (17 : Int32) [(.ref ad0), (.ref ad1), (.ref ad2), (.ref ad3), (.ref ad4), (.ref ad5), (.ref ad6), (.ref ad7), (.ref ad8), (.ref ad9), (.ref ad10), (.ref ad11), (.ref ad12), (.ref ad13), (.ref ad14), (.ref ad15), .null] .null := Arv.set Arz304 qz304 Sz304 Nz304 Hz304 Gz304 rfl W305 15 rfl (Nat.le_of_ble_eq_true rfl)
  have N305 := Fr.snoc X305 N271 g0_b1
  have c323 := S16.ext E1
  have c324 := c323.wr W5
  have c325 := c324.wr W11
  have c326 := c325.wr W19
  have c327 := c326.wr W29
  have c328 := c327.wr W41
  have c329 := c328.wr W55
  have c330 := c329.wr W71
  have c331 := c330.wr W89
  have c332 := c331.wr W109
  have c333 := c332.wr W131
  have c334 := c333.wr W155
  have c335 := c334.wr W181
  have c336 := c335.wr W209
  have c337 := c336.wr W239
  have c338 := c337.wr W271
  have c339 := c338.wr W305
  obtain ⟨T322, X322, e322, st322⟩ := getS2 X305 hx hZ hown (host := "") (Or.inl (ow hw 36 rfl)) Via.refl e305 c339 (g := (mkF m 114 #[.val (.int p1), .unset, .unset, .unset, .unset] [(.int (16 : Int32)), (.ref b1), (.ref b1)])) rfl (hb hby at_114)
  obtain ⟨clz340, Arz340, qz340, Sz340, Nz340, Hz340, Gz340⟩ := V305
  have hin341 : ¬ ((16 : Int32) < 0 ∨ clz340.slots.size ≤ ((16 : Int32)).toNatClampNeg) := inb_of Sz340 ⟨by decide, by decide⟩
  have c342 := Ex16.ext E1
  have c343 := c342.wr W5
  have c344 := c343.wr W11
  have c345 := c344.wr W19
  have c346 := c345.wr W29
  have c347 := c346.wr W41
  have c348 := c347.wr W55
  have c349 := c348.wr W71
  have c350 := c349.wr W89
  have c351 := c350.wr W109
  have c352 := c351.wr W131
  have c353 := c352.wr W155
  have c354 := c353.wr W181
  have c355 := c354.wr W209
  have c356 := c355.wr W239
  have c357 := c356.wr W271
  have c358 := c357.wr W305
  obtain ⟨T341, h341, X341, e341, W341, st341⟩ := stR X322 hx hZ e322 Arz340 (j := (16 : Int32)) hin341 rfl (Sto.ofV Arz340 qz340 O1 (Ins.self c358)) (g := (mkF m 117 #[.val (.int p1), .unset, .unset, .unset, .unset] [(.ref ad16), (.int (16 : Int32)), (.ref b1), (.ref b1)])) rfl rfl (hb hby at_117)
  have V341 : Arv Z h341 b1 k1 (.object "com/example/authzlint/authzlint/model/DataType") (17 : Int32) [(.ref ad0), (.ref ad1), (.ref ad2), (.ref ad3), (.ref ad4), (.ref ad5), (.ref ad6), (.ref ad7), (.ref ad8), (.ref ad9), (.ref ad10), (.ref ad11), (.ref ad12), (.ref ad13), (.ref ad14), (.ref ad15), (.ref ad16)] .null := Arv.set Arz340 qz340 Sz340 Nz340 Hz340 Gz340 rfl W341 16 rfl (Nat.le_of_ble_eq_true rfl)
  have N341 := Fr.snoc X341 N305 g0_b1
  obtain ⟨clz359, Arz359, qz359, Sz359, Nz359, Hz359, Gz359⟩ := V341
  have hin360 : ¬ (((p1 &&& (2147483647 : Int32)) % (17 : Int32)) < 0 ∨ clz359.slots.size ≤ (((p1 &&& (2147483647 : Int32)) % (17 : Int32))).toNatClampNeg) := by rw [hk]; exact inb_of Sz359 ⟨(own_in17 kk hkk).1, (own_in17 kk hkk).2.1⟩
  have hat360 : clz359.slots[(((p1 &&& (2147483647 : Int32)) % (17 : Int32))).toNatClampNeg]? = some (.ref a) := Hz359.at hin360 (by rw [hk, (own_in17 kk hkk).2.2]; exact hget)
  have c361 := c39.wr W41
  have c362 := c361.wr W55
  have c363 := c362.wr W71
  have c364 := c363.wr W89
  have c365 := c364.wr W109
  have c366 := c365.wr W131
  have c367 := c366.wr W155
  have c368 := c367.wr W181
  have c369 := c368.wr W209
  have c370 := c369.wr W239
  have c371 := c370.wr W271
  have c372 := c371.wr W305
  have c373 := c372.wr W341
  have c374 := c53.wr W55
  have c375 := c374.wr W71
  have c376 := c375.wr W89
  have c377 := c376.wr W109
  have c378 := c377.wr W131
  have c379 := c378.wr W155
  have c380 := c379.wr W181
  have c381 := c380.wr W209
  have c382 := c381.wr W239
  have c383 := c382.wr W271
  have c384 := c383.wr W305
  have c385 := c384.wr W341
  have c386 := c69.wr W71
  have c387 := c386.wr W89
  have c388 := c387.wr W109
  have c389 := c388.wr W131
  have c390 := c389.wr W155
  have c391 := c390.wr W181
  have c392 := c391.wr W209
  have c393 := c392.wr W239
  have c394 := c393.wr W271
  have c395 := c394.wr W305
  have c396 := c395.wr W341
  have c398 := ExA.ext E1
  have c399 := c398.wr W5
  have c400 := c399.wr W11
  have c401 := c400.wr W19
  have c402 := c401.wr W29
  have c403 := c402.wr W41
  have c404 := c403.wr W55
  have c405 := c404.wr W71
  have c406 := c405.wr W89
  have c407 := c406.wr W109
  have c408 := c407.wr W131
  have c409 := c408.wr W155
  have c410 := c409.wr W181
  have c411 := c410.wr W209
  have c412 := c411.wr W239
  have c413 := c412.wr W271
  have c414 := c413.wr W305
  have c415 := c414.wr W341
  obtain ⟨cq397, kq397, q397a, q397b, q397c⟩ := isOf hZ e341 c415
  obtain ⟨_, _, ⟨T397, L397, k397, n397⟩, -, X397, ⟨Lc397, hQ397, l397, y397, z397⟩, st397⟩ := X341.virtualBack hx (y := nm_1) (z := nm_1) hown (mvT hZ (ow hw 39 rfl)) (mvT hZ (ow hw 40 rfl)) (notFace_of_selects (args := #[]) (mvT hZ (ow hw 42 rfl))) (mvT hZ (ow hw 42 rfl)) (mvT hZ (ow hw 41 rfl)) (by decide) (backOf (W := 0) (rm1 l Z a0 hw [] a ad4 ad5 ad6 h341 n0 (Nat.le_trans (Nat.le_trans (Nat.le_trans (Nat.le_trans (Nat.le_trans (Nat.le_trans (Nat.le_trans (Nat.le_trans (Nat.le_trans (Nat.le_trans (Nat.le_trans (Nat.le_trans (Nat.le_trans (Nat.le_trans (Nat.le_trans (Nat.le_trans (Nat.le_trans (Nat.le_trans Z0 E1.1) (Keep.of_wr W5).1) (Keep.of_wr W11).1) (Keep.of_wr W19).1) (Keep.of_wr W29).1) (Keep.of_wr W41).1) (Keep.of_wr W55).1) (Keep.of_wr W71).1) (Keep.of_wr W89).1) (Keep.of_wr W109).1) (Keep.of_wr W131).1) (Keep.of_wr W155).1) (Keep.of_wr W181).1) (Keep.of_wr W209).1) (Keep.of_wr W239).1) (Keep.of_wr W271).1) (Keep.of_wr W305).1) (Keep.of_wr W341).1) c373 c385 c396) hZ (ow hw 43 rfl) (ow hw 3 rfl) (by decide) (by decide)) q397a q397c (g := (mkF m 155 #[.val (.int p1), .val (.ref b1), .val (.int ((p1 &&& (2147483647 : Int32)) % (17 : Int32))), .val (.ref a), .val (.int (1 : Int32))] [(.ref a)])) rfl (by rw [hml]; rfl) (Steps.refl _) (argsL := []) (rest := []) (lenOf pd_0 rfl) rfl (by show 2 * 0 + _ ≤ _; exact Nat.le_of_eq rfl) (hb hby at_155) (fun _ _ => ⟨rfl, e341, (by decide : 1 + 0 ≤ _), (by decide : 17 + 0 ≤ _)⟩)
  dsimp only [Pt.U, Pt.locs, Pt.cells, Pt.slots] at X397 l397 y397 z397 st397 hQ397
  subst l397 y397 z397
  obtain ⟨rfl, N397q, e397⟩ := hQ397
  have N397 := Fr.app N341 N397q
  obtain ⟨fs, hr, hrun, hended, hW, hsame⟩ := X397.leave (v := some (.int (1 : Int32))) (fun h => by rw [Bd.returns] at h; cases h)
  refine ⟨_, _, pre0 _ ?_, hrun, hended, _, _, rfl, ?_, ⟨_, rfl⟩, hW, hsame.mono (by decide) (by decide)⟩
  · show Steps p.tables e below (s₁.setTop (mkF m 0 #[.val (.int p1), .unset, .unset, .unset, .unset] [])) _
    refine XS.bipush X0.here hx rfl (hb hby at_0) ?_
    show Steps p.tables e below (s₁.setTop (mkF m 2 #[.val (.int p1), .unset, .unset, .unset, .unset] [(.int (17 : Int32))])) _
    refine st1 _ ?_
    show Steps p.tables e below (T1.setTop (mkF m 5 #[.val (.int p1), .unset, .unset, .unset, .unset] [(.ref b1)])) _
    refine XS.dup X1.here hx rfl (hb hby at_5) rfl rfl ?_
    show Steps p.tables e below (T1.setTop (mkF m 6 #[.val (.int p1), .unset, .unset, .unset, .unset] [(.ref b1), (.ref b1)])) _
    refine XS.iconst X1.here hx rfl (hb hby at_6) ?_
    show Steps p.tables e below (T1.setTop (mkF m 7 #[.val (.int p1), .unset, .unset, .unset, .unset] [(.int (0 : Int32)), (.ref b1), (.ref b1)])) _
    refine st2 _ ?_
    show Steps p.tables e below (T2.setTop (mkF m 10 #[.val (.int p1), .unset, .unset, .unset, .unset] [(.ref ad0), (.int (0 : Int32)), (.ref b1), (.ref b1)])) _
    refine st5 _ ?_
    show Steps p.tables e below (T5.setTop (mkF m 11 #[.val (.int p1), .unset, .unset, .unset, .unset] [(.ref b1)])) _
    refine XS.dup X5.here hx rfl (hb hby at_11) rfl rfl ?_
    show Steps p.tables e below (T5.setTop (mkF m 12 #[.val (.int p1), .unset, .unset, .unset, .unset] [(.ref b1), (.ref b1)])) _
    refine XS.iconst X5.here hx rfl (hb hby at_12) ?_
    show Steps p.tables e below (T5.setTop (mkF m 13 #[.val (.int p1), .unset, .unset, .unset, .unset] [(.int (1 : Int32)), (.ref b1), (.ref b1)])) _
    refine st7 _ ?_
    show Steps p.tables e below (T7.setTop (mkF m 16 #[.val (.int p1), .unset, .unset, .unset, .unset] [(.ref ad1), (.int (1 : Int32)), (.ref b1), (.ref b1)])) _
    refine st11 _ ?_
    show Steps p.tables e below (T11.setTop (mkF m 17 #[.val (.int p1), .unset, .unset, .unset, .unset] [(.ref b1)])) _
    refine XS.dup X11.here hx rfl (hb hby at_17) rfl rfl ?_
    show Steps p.tables e below (T11.setTop (mkF m 18 #[.val (.int p1), .unset, .unset, .unset, .unset] [(.ref b1), (.ref b1)])) _
    refine XS.iconst X11.here hx rfl (hb hby at_18) ?_
    show Steps p.tables e below (T11.setTop (mkF m 19 #[.val (.int p1), .unset, .unset, .unset, .unset] [(.int (2 : Int32)), (.ref b1), (.ref b1)])) _
    refine st14 _ ?_
    show Steps p.tables e below (T14.setTop (mkF m 22 #[.val (.int p1), .unset, .unset, .unset, .unset] [(.ref ad2), (.int (2 : Int32)), (.ref b1), (.ref b1)])) _
    refine st19 _ ?_
    show Steps p.tables e below (T19.setTop (mkF m 23 #[.val (.int p1), .unset, .unset, .unset, .unset] [(.ref b1)])) _
    refine XS.dup X19.here hx rfl (hb hby at_23) rfl rfl ?_
    show Steps p.tables e below (T19.setTop (mkF m 24 #[.val (.int p1), .unset, .unset, .unset, .unset] [(.ref b1), (.ref b1)])) _
    refine XS.iconst X19.here hx rfl (hb hby at_24) ?_
    show Steps p.tables e below (T19.setTop (mkF m 25 #[.val (.int p1), .unset, .unset, .unset, .unset] [(.int (3 : Int32)), (.ref b1), (.ref b1)])) _
    refine st23 _ ?_
    show Steps p.tables e below (T23.setTop (mkF m 28 #[.val (.int p1), .unset, .unset, .unset, .unset] [(.ref ad3), (.int (3 : Int32)), (.ref b1), (.ref b1)])) _
    refine st29 _ ?_
    show Steps p.tables e below (T29.setTop (mkF m 29 #[.val (.int p1), .unset, .unset, .unset, .unset] [(.ref b1)])) _
    refine XS.dup X29.here hx rfl (hb hby at_29) rfl rfl ?_
    show Steps p.tables e below (T29.setTop (mkF m 30 #[.val (.int p1), .unset, .unset, .unset, .unset] [(.ref b1), (.ref b1)])) _
    refine XS.iconst X29.here hx rfl (hb hby at_30) ?_
    show Steps p.tables e below (T29.setTop (mkF m 31 #[.val (.int p1), .unset, .unset, .unset, .unset] [(.int (4 : Int32)), (.ref b1), (.ref b1)])) _
    refine st34 _ ?_
    show Steps p.tables e below (T34.setTop (mkF m 34 #[.val (.int p1), .unset, .unset, .unset, .unset] [(.ref ad4), (.int (4 : Int32)), (.ref b1), (.ref b1)])) _
    refine st41 _ ?_
    show Steps p.tables e below (T41.setTop (mkF m 35 #[.val (.int p1), .unset, .unset, .unset, .unset] [(.ref b1)])) _
    refine XS.dup X41.here hx rfl (hb hby at_35) rfl rfl ?_
    show Steps p.tables e below (T41.setTop (mkF m 36 #[.val (.int p1), .unset, .unset, .unset, .unset] [(.ref b1), (.ref b1)])) _
    refine XS.iconst X41.here hx rfl (hb hby at_36) ?_
    show Steps p.tables e below (T41.setTop (mkF m 37 #[.val (.int p1), .unset, .unset, .unset, .unset] [(.int (5 : Int32)), (.ref b1), (.ref b1)])) _
    refine st47 _ ?_
    show Steps p.tables e below (T47.setTop (mkF m 40 #[.val (.int p1), .unset, .unset, .unset, .unset] [(.ref ad5), (.int (5 : Int32)), (.ref b1), (.ref b1)])) _
    refine st55 _ ?_
    show Steps p.tables e below (T55.setTop (mkF m 41 #[.val (.int p1), .unset, .unset, .unset, .unset] [(.ref b1)])) _
    refine XS.dup X55.here hx rfl (hb hby at_41) rfl rfl ?_
    show Steps p.tables e below (T55.setTop (mkF m 42 #[.val (.int p1), .unset, .unset, .unset, .unset] [(.ref b1), (.ref b1)])) _
    refine XS.bipush X55.here hx rfl (hb hby at_42) ?_
    show Steps p.tables e below (T55.setTop (mkF m 44 #[.val (.int p1), .unset, .unset, .unset, .unset] [(.int (6 : Int32)), (.ref b1), (.ref b1)])) _
    refine st62 _ ?_
    show Steps p.tables e below (T62.setTop (mkF m 47 #[.val (.int p1), .unset, .unset, .unset, .unset] [(.ref ad6), (.int (6 : Int32)), (.ref b1), (.ref b1)])) _
    refine st71 _ ?_
    show Steps p.tables e below (T71.setTop (mkF m 48 #[.val (.int p1), .unset, .unset, .unset, .unset] [(.ref b1)])) _
    refine XS.dup X71.here hx rfl (hb hby at_48) rfl rfl ?_
    show Steps p.tables e below (T71.setTop (mkF m 49 #[.val (.int p1), .unset, .unset, .unset, .unset] [(.ref b1), (.ref b1)])) _
    refine XS.bipush X71.here hx rfl (hb hby at_49) ?_
    show Steps p.tables e below (T71.setTop (mkF m 51 #[.val (.int p1), .unset, .unset, .unset, .unset] [(.int (7 : Int32)), (.ref b1), (.ref b1)])) _
    refine st79 _ ?_
    show Steps p.tables e below (T79.setTop (mkF m 54 #[.val (.int p1), .unset, .unset, .unset, .unset] [(.ref ad7), (.int (7 : Int32)), (.ref b1), (.ref b1)])) _
    refine st89 _ ?_
    show Steps p.tables e below (T89.setTop (mkF m 55 #[.val (.int p1), .unset, .unset, .unset, .unset] [(.ref b1)])) _
    refine XS.dup X89.here hx rfl (hb hby at_55) rfl rfl ?_
    show Steps p.tables e below (T89.setTop (mkF m 56 #[.val (.int p1), .unset, .unset, .unset, .unset] [(.ref b1), (.ref b1)])) _
    refine XS.bipush X89.here hx rfl (hb hby at_56) ?_
    show Steps p.tables e below (T89.setTop (mkF m 58 #[.val (.int p1), .unset, .unset, .unset, .unset] [(.int (8 : Int32)), (.ref b1), (.ref b1)])) _
    refine st98 _ ?_
    show Steps p.tables e below (T98.setTop (mkF m 61 #[.val (.int p1), .unset, .unset, .unset, .unset] [(.ref ad8), (.int (8 : Int32)), (.ref b1), (.ref b1)])) _
    refine st109 _ ?_
    show Steps p.tables e below (T109.setTop (mkF m 62 #[.val (.int p1), .unset, .unset, .unset, .unset] [(.ref b1)])) _
    refine XS.dup X109.here hx rfl (hb hby at_62) rfl rfl ?_
    show Steps p.tables e below (T109.setTop (mkF m 63 #[.val (.int p1), .unset, .unset, .unset, .unset] [(.ref b1), (.ref b1)])) _
    refine XS.bipush X109.here hx rfl (hb hby at_63) ?_
    show Steps p.tables e below (T109.setTop (mkF m 65 #[.val (.int p1), .unset, .unset, .unset, .unset] [(.int (9 : Int32)), (.ref b1), (.ref b1)])) _
    refine st119 _ ?_
    show Steps p.tables e below (T119.setTop (mkF m 68 #[.val (.int p1), .unset, .unset, .unset, .unset] [(.ref ad9), (.int (9 : Int32)), (.ref b1), (.ref b1)])) _
    refine st131 _ ?_
    show Steps p.tables e below (T131.setTop (mkF m 69 #[.val (.int p1), .unset, .unset, .unset, .unset] [(.ref b1)])) _
    refine XS.dup X131.here hx rfl (hb hby at_69) rfl rfl ?_
    show Steps p.tables e below (T131.setTop (mkF m 70 #[.val (.int p1), .unset, .unset, .unset, .unset] [(.ref b1), (.ref b1)])) _
    refine XS.bipush X131.here hx rfl (hb hby at_70) ?_
    show Steps p.tables e below (T131.setTop (mkF m 72 #[.val (.int p1), .unset, .unset, .unset, .unset] [(.int (10 : Int32)), (.ref b1), (.ref b1)])) _
    refine st142 _ ?_
    show Steps p.tables e below (T142.setTop (mkF m 75 #[.val (.int p1), .unset, .unset, .unset, .unset] [(.ref ad10), (.int (10 : Int32)), (.ref b1), (.ref b1)])) _
    refine st155 _ ?_
    show Steps p.tables e below (T155.setTop (mkF m 76 #[.val (.int p1), .unset, .unset, .unset, .unset] [(.ref b1)])) _
    refine XS.dup X155.here hx rfl (hb hby at_76) rfl rfl ?_
    show Steps p.tables e below (T155.setTop (mkF m 77 #[.val (.int p1), .unset, .unset, .unset, .unset] [(.ref b1), (.ref b1)])) _
    refine XS.bipush X155.here hx rfl (hb hby at_77) ?_
    show Steps p.tables e below (T155.setTop (mkF m 79 #[.val (.int p1), .unset, .unset, .unset, .unset] [(.int (11 : Int32)), (.ref b1), (.ref b1)])) _
    refine st167 _ ?_
    show Steps p.tables e below (T167.setTop (mkF m 82 #[.val (.int p1), .unset, .unset, .unset, .unset] [(.ref ad11), (.int (11 : Int32)), (.ref b1), (.ref b1)])) _
    refine st181 _ ?_
    show Steps p.tables e below (T181.setTop (mkF m 83 #[.val (.int p1), .unset, .unset, .unset, .unset] [(.ref b1)])) _
    refine XS.dup X181.here hx rfl (hb hby at_83) rfl rfl ?_
    show Steps p.tables e below (T181.setTop (mkF m 84 #[.val (.int p1), .unset, .unset, .unset, .unset] [(.ref b1), (.ref b1)])) _
    refine XS.bipush X181.here hx rfl (hb hby at_84) ?_
    show Steps p.tables e below (T181.setTop (mkF m 86 #[.val (.int p1), .unset, .unset, .unset, .unset] [(.int (12 : Int32)), (.ref b1), (.ref b1)])) _
    refine st194 _ ?_
    show Steps p.tables e below (T194.setTop (mkF m 89 #[.val (.int p1), .unset, .unset, .unset, .unset] [(.ref ad12), (.int (12 : Int32)), (.ref b1), (.ref b1)])) _
    refine st209 _ ?_
    show Steps p.tables e below (T209.setTop (mkF m 90 #[.val (.int p1), .unset, .unset, .unset, .unset] [(.ref b1)])) _
    refine XS.dup X209.here hx rfl (hb hby at_90) rfl rfl ?_
    show Steps p.tables e below (T209.setTop (mkF m 91 #[.val (.int p1), .unset, .unset, .unset, .unset] [(.ref b1), (.ref b1)])) _
    refine XS.bipush X209.here hx rfl (hb hby at_91) ?_
    show Steps p.tables e below (T209.setTop (mkF m 93 #[.val (.int p1), .unset, .unset, .unset, .unset] [(.int (13 : Int32)), (.ref b1), (.ref b1)])) _
    refine st223 _ ?_
    show Steps p.tables e below (T223.setTop (mkF m 96 #[.val (.int p1), .unset, .unset, .unset, .unset] [(.ref ad13), (.int (13 : Int32)), (.ref b1), (.ref b1)])) _
    refine st239 _ ?_
    show Steps p.tables e below (T239.setTop (mkF m 97 #[.val (.int p1), .unset, .unset, .unset, .unset] [(.ref b1)])) _
    refine XS.dup X239.here hx rfl (hb hby at_97) rfl rfl ?_
    show Steps p.tables e below (T239.setTop (mkF m 98 #[.val (.int p1), .unset, .unset, .unset, .unset] [(.ref b1), (.ref b1)])) _
    refine XS.bipush X239.here hx rfl (hb hby at_98) ?_
    show Steps p.tables e below (T239.setTop (mkF m 100 #[.val (.int p1), .unset, .unset, .unset, .unset] [(.int (14 : Int32)), (.ref b1), (.ref b1)])) _
    refine st254 _ ?_
    show Steps p.tables e below (T254.setTop (mkF m 103 #[.val (.int p1), .unset, .unset, .unset, .unset] [(.ref ad14), (.int (14 : Int32)), (.ref b1), (.ref b1)])) _
    refine st271 _ ?_
    show Steps p.tables e below (T271.setTop (mkF m 104 #[.val (.int p1), .unset, .unset, .unset, .unset] [(.ref b1)])) _
    refine XS.dup X271.here hx rfl (hb hby at_104) rfl rfl ?_
    show Steps p.tables e below (T271.setTop (mkF m 105 #[.val (.int p1), .unset, .unset, .unset, .unset] [(.ref b1), (.ref b1)])) _
    refine XS.bipush X271.here hx rfl (hb hby at_105) ?_
    show Steps p.tables e below (T271.setTop (mkF m 107 #[.val (.int p1), .unset, .unset, .unset, .unset] [(.int (15 : Int32)), (.ref b1), (.ref b1)])) _
    refine st287 _ ?_
    show Steps p.tables e below (T287.setTop (mkF m 110 #[.val (.int p1), .unset, .unset, .unset, .unset] [(.ref ad15), (.int (15 : Int32)), (.ref b1), (.ref b1)])) _
    refine st305 _ ?_
    show Steps p.tables e below (T305.setTop (mkF m 111 #[.val (.int p1), .unset, .unset, .unset, .unset] [(.ref b1)])) _
    refine XS.dup X305.here hx rfl (hb hby at_111) rfl rfl ?_
    show Steps p.tables e below (T305.setTop (mkF m 112 #[.val (.int p1), .unset, .unset, .unset, .unset] [(.ref b1), (.ref b1)])) _
    refine XS.bipush X305.here hx rfl (hb hby at_112) ?_
    show Steps p.tables e below (T305.setTop (mkF m 114 #[.val (.int p1), .unset, .unset, .unset, .unset] [(.int (16 : Int32)), (.ref b1), (.ref b1)])) _
    refine st322 _ ?_
    show Steps p.tables e below (T322.setTop (mkF m 117 #[.val (.int p1), .unset, .unset, .unset, .unset] [(.ref ad16), (.int (16 : Int32)), (.ref b1), (.ref b1)])) _
    refine st341 _ ?_
    show Steps p.tables e below (T341.setTop (mkF m 118 #[.val (.int p1), .unset, .unset, .unset, .unset] [(.ref b1)])) _
    refine XS.astoreN X341.here hx rfl (hb hby at_118) rfl rfl (l' := #[.val (.int p1), .val (.ref b1), .unset, .unset, .unset]) rfl ?_
    show Steps p.tables e below (T341.setTop (mkF m 119 #[.val (.int p1), .val (.ref b1), .unset, .unset, .unset] [])) _
    refine XS.iloadN X341.here hx rfl (hb hby at_119) rfl ?_
    show Steps p.tables e below (T341.setTop (mkF m 120 #[.val (.int p1), .val (.ref b1), .unset, .unset, .unset] [(.int p1)])) _
    refine X341.ldcInt hx hown (mvT hZ (ow hw 38 rfl)) (g := (mkF m 120 #[.val (.int p1), .val (.ref b1), .unset, .unset, .unset] [(.int p1)])) rfl (hb hby at_120) _ ?_
    show Steps p.tables e below (T341.setTop (mkF m 122 #[.val (.int p1), .val (.ref b1), .unset, .unset, .unset] [(.int (2147483647 : Int32)), (.int p1)])) _
    refine XS.iand X341.here hx rfl (hb hby at_122) rfl ?_
    show Steps p.tables e below (T341.setTop (mkF m 123 #[.val (.int p1), .val (.ref b1), .unset, .unset, .unset] [(.int (p1 &&& (2147483647 : Int32)))])) _
    refine XS.bipush X341.here hx rfl (hb hby at_123) ?_
    show Steps p.tables e below (T341.setTop (mkF m 125 #[.val (.int p1), .val (.ref b1), .unset, .unset, .unset] [(.int (17 : Int32)), (.int (p1 &&& (2147483647 : Int32)))])) _
    refine iremM X341 hx (g := (mkF m 125 #[.val (.int p1), .val (.ref b1), .unset, .unset, .unset] [(.int (17 : Int32)), (.int (p1 &&& (2147483647 : Int32)))])) rfl (hb hby at_125) rfl (by decide) ?_
    show Steps p.tables e below (T341.setTop (mkF m 126 #[.val (.int p1), .val (.ref b1), .unset, .unset, .unset] [(.int ((p1 &&& (2147483647 : Int32)) % (17 : Int32)))])) _
    refine XS.istoreN X341.here hx rfl (hb hby at_126) rfl (l' := #[.val (.int p1), .val (.ref b1), .val (.int ((p1 &&& (2147483647 : Int32)) % (17 : Int32))), .unset, .unset]) rfl ?_
    show Steps p.tables e below (T341.setTop (mkF m 127 #[.val (.int p1), .val (.ref b1), .val (.int ((p1 &&& (2147483647 : Int32)) % (17 : Int32))), .unset, .unset] [])) _
    refine XS.aloadN X341.here hx rfl (hb hby at_127) rfl rfl ?_
    show Steps p.tables e below (T341.setTop (mkF m 128 #[.val (.int p1), .val (.ref b1), .val (.int ((p1 &&& (2147483647 : Int32)) % (17 : Int32))), .unset, .unset] [(.ref b1)])) _
    refine XS.iloadN X341.here hx rfl (hb hby at_128) rfl ?_
    show Steps p.tables e below (T341.setTop (mkF m 129 #[.val (.int p1), .val (.ref b1), .val (.int ((p1 &&& (2147483647 : Int32)) % (17 : Int32))), .unset, .unset] [(.int ((p1 &&& (2147483647 : Int32)) % (17 : Int32))), (.ref b1)])) _
    refine X341.aaload hx (j := ((p1 &&& (2147483647 : Int32)) % (17 : Int32))) (v := (.ref a)) (by rw [e341]; exact Arz359.1) (State.isArrayOf_alike hZ.alike Arz359.2.1) rfl Arz359.2.2 hin360 hat360 (g := (mkF m 129 #[.val (.int p1), .val (.ref b1), .val (.int ((p1 &&& (2147483647 : Int32)) % (17 : Int32))), .unset, .unset] [(.int ((p1 &&& (2147483647 : Int32)) % (17 : Int32))), (.ref b1)])) rfl rfl (hb hby at_129) _ ?_
    show Steps p.tables e below (T341.setTop (mkF m 130 #[.val (.int p1), .val (.ref b1), .val (.int ((p1 &&& (2147483647 : Int32)) % (17 : Int32))), .unset, .unset] [(.ref a)])) _
    refine XS.astoreN X341.here hx rfl (hb hby at_130) rfl rfl (l' := #[.val (.int p1), .val (.ref b1), .val (.int ((p1 &&& (2147483647 : Int32)) % (17 : Int32))), .val (.ref a), .unset]) rfl ?_
    show Steps p.tables e below (T341.setTop (mkF m 131 #[.val (.int p1), .val (.ref b1), .val (.int ((p1 &&& (2147483647 : Int32)) % (17 : Int32))), .val (.ref a), .unset] [])) _
    refine XS.iloadN X341.here hx rfl (hb hby at_131) rfl ?_
    show Steps p.tables e below (T341.setTop (mkF m 132 #[.val (.int p1), .val (.ref b1), .val (.int ((p1 &&& (2147483647 : Int32)) % (17 : Int32))), .val (.ref a), .unset] [(.int ((p1 &&& (2147483647 : Int32)) % (17 : Int32)))])) _
    refine XS.iconst X341.here hx rfl (hb hby at_132) ?_
    show Steps p.tables e below (T341.setTop (mkF m 133 #[.val (.int p1), .val (.ref b1), .val (.int ((p1 &&& (2147483647 : Int32)) % (17 : Int32))), .val (.ref a), .unset] [(.int (4 : Int32)), (.int ((p1 &&& (2147483647 : Int32)) % (17 : Int32)))])) _
    refine XS.icmpNo X341.here hx rfl (hb hby at_133) rfl (feq hc133).1 ?_
    show Steps p.tables e below (T341.setTop (mkF m 136 #[.val (.int p1), .val (.ref b1), .val (.int ((p1 &&& (2147483647 : Int32)) % (17 : Int32))), .val (.ref a), .unset] [])) _
    refine XS.iloadN X341.here hx rfl (hb hby at_136) rfl ?_
    show Steps p.tables e below (T341.setTop (mkF m 137 #[.val (.int p1), .val (.ref b1), .val (.int ((p1 &&& (2147483647 : Int32)) % (17 : Int32))), .val (.ref a), .unset] [(.int ((p1 &&& (2147483647 : Int32)) % (17 : Int32)))])) _
    refine XS.iconst X341.here hx rfl (hb hby at_137) ?_
    show Steps p.tables e below (T341.setTop (mkF m 138 #[.val (.int p1), .val (.ref b1), .val (.int ((p1 &&& (2147483647 : Int32)) % (17 : Int32))), .val (.ref a), .unset] [(.int (5 : Int32)), (.int ((p1 &&& (2147483647 : Int32)) % (17 : Int32)))])) _
    refine XS.icmpNo X341.here hx rfl (hb hby at_138) rfl (feq hc138).1 ?_
    show Steps p.tables e below (T341.setTop (mkF m 141 #[.val (.int p1), .val (.ref b1), .val (.int ((p1 &&& (2147483647 : Int32)) % (17 : Int32))), .val (.ref a), .unset] [])) _
    refine XS.iloadN X341.here hx rfl (hb hby at_141) rfl ?_
    show Steps p.tables e below (T341.setTop (mkF m 142 #[.val (.int p1), .val (.ref b1), .val (.int ((p1 &&& (2147483647 : Int32)) % (17 : Int32))), .val (.ref a), .unset] [(.int ((p1 &&& (2147483647 : Int32)) % (17 : Int32)))])) _
    refine XS.bipush X341.here hx rfl (hb hby at_142) ?_
    show Steps p.tables e below (T341.setTop (mkF m 144 #[.val (.int p1), .val (.ref b1), .val (.int ((p1 &&& (2147483647 : Int32)) % (17 : Int32))), .val (.ref a), .unset] [(.int (6 : Int32)), (.int ((p1 &&& (2147483647 : Int32)) % (17 : Int32)))])) _
    refine XS.icmpNo X341.here hx rfl (hb hby at_144) rfl (teq hc144).2 ?_
    show Steps p.tables e below (T341.setTop (mkF m 147 #[.val (.int p1), .val (.ref b1), .val (.int ((p1 &&& (2147483647 : Int32)) % (17 : Int32))), .val (.ref a), .unset] [])) _
    refine XS.iconst X341.here hx rfl (hb hby at_147) ?_
    show Steps p.tables e below (T341.setTop (mkF m 148 #[.val (.int p1), .val (.ref b1), .val (.int ((p1 &&& (2147483647 : Int32)) % (17 : Int32))), .val (.ref a), .unset] [(.int (1 : Int32))])) _
    refine XS.goto X341.here hx rfl (pc0 := 148) (pc' := 152) rfl (hb hby at_148) (by decide) (by decide) ?_
    show Steps p.tables e below (T341.setTop (mkF m 152 #[.val (.int p1), .val (.ref b1), .val (.int ((p1 &&& (2147483647 : Int32)) % (17 : Int32))), .val (.ref a), .unset] [(.int (1 : Int32))])) _
    refine XS.istore X341.here hx rfl (hb hby at_152) rfl (l' := #[.val (.int p1), .val (.ref b1), .val (.int ((p1 &&& (2147483647 : Int32)) % (17 : Int32))), .val (.ref a), .val (.int (1 : Int32))]) rfl ?_
    show Steps p.tables e below (T341.setTop (mkF m 154 #[.val (.int p1), .val (.ref b1), .val (.int ((p1 &&& (2147483647 : Int32)) % (17 : Int32))), .val (.ref a), .val (.int (1 : Int32))] [])) _
    refine XS.aloadN X341.here hx rfl (hb hby at_154) rfl rfl ?_
    show Steps p.tables e below (T341.setTop (mkF m 155 #[.val (.int p1), .val (.ref b1), .val (.int ((p1 &&& (2147483647 : Int32)) % (17 : Int32))), .val (.ref a), .val (.int (1 : Int32))] [(.ref a)])) _
    refine st397.trans ?_
    show Steps p.tables e below (T397.setTop (mkF m 158 #[.val (.int p1), .val (.ref b1), .val (.int ((p1 &&& (2147483647 : Int32)) % (17 : Int32))), .val (.ref a), .val (.int (1 : Int32))] [(.int (if a = ad4 ∨ a = ad5 ∨ a = ad6 then (1 : Int32) else 0))])) _
    refine XS.iload X397.here hx rfl (hb hby at_158) rfl ?_
    show Steps p.tables e below (T397.setTop (mkF m 160 #[.val (.int p1), .val (.ref b1), .val (.int ((p1 &&& (2147483647 : Int32)) % (17 : Int32))), .val (.ref a), .val (.int (1 : Int32))] [(.int (1 : Int32)), (.int (if a = ad4 ∨ a = ad5 ∨ a = ad6 then (1 : Int32) else 0))])) _
    refine XS.icmpNo X397.here hx rfl (hb hby at_160) rfl (teq hc160).2 ?_
    show Steps p.tables e below (T397.setTop (mkF m 163 #[.val (.int p1), .val (.ref b1), .val (.int ((p1 &&& (2147483647 : Int32)) % (17 : Int32))), .val (.ref a), .val (.int (1 : Int32))] [])) _
    refine XS.iconst X397.here hx rfl (hb hby at_163) ?_
    show Steps p.tables e below (T397.setTop (mkF m 164 #[.val (.int p1), .val (.ref b1), .val (.int ((p1 &&& (2147483647 : Int32)) % (17 : Int32))), .val (.ref a), .val (.int (1 : Int32))] [(.int (1 : Int32))])) _
    refine XS.goto X397.here hx rfl (pc0 := 164) (pc' := 168) rfl (hb hby at_164) (by decide) (by decide) ?_
    show Steps p.tables e below (T397.setTop (mkF m 168 #[.val (.int p1), .val (.ref b1), .val (.int ((p1 &&& (2147483647 : Int32)) % (17 : Int32))), .val (.ref a), .val (.int (1 : Int32))] [(.int (1 : Int32))])) _
    exact retN X397 hx (t := .boolean) Bd.returns (by simp) (hb hby at_168) hr
  · show QF (some (.int (1 : Int32))) h0 n0 _ T397.heap _
    rw [e397]
    exact ⟨rfl, N397⟩
set_option maxRecDepth 65536 in
set_option maxHeartbeats 40000000 in
theorem rm0_fft (l : Launch) (Z : State) (a0 : Array Value) (hw : ∀ d ∈ tables_1, d.before a0 Z = true) (ws : List Jvm.Cond) (p1 : Int32) (kk : Nat) (a : Addr) (ad0 : Addr) (ad1 : Addr) (ad2 : Addr) (ad3 : Addr) (ad4 : Addr) (ad5 : Addr) (ad6 : Addr) (ad7 : Addr) (ad8 : Addr) (ad9 : Addr) (ad10 : Addr) (ad11 : Addr) (ad12 : Addr) (ad13 : Addr) (ad14 : Addr) (ad15 : Addr) (ad16 : Addr) (h0 : Heap) (n0 : Nat) (Z0 : n0 ≤ h0.size) (S0 : Sta Z h0 "com/example/authzlint/authzlint/model/DataType" "STRING" "Lcom/example/authzlint/authzlint/model/DataType;" (.ref ad0)) (S1 : Sta Z h0 "com/example/authzlint/authzlint/model/DataType" "BOOLEAN" "Lcom/example/authzlint/authzlint/model/DataType;" (.ref ad1)) (S2 : Sta Z h0 "com/example/authzlint/authzlint/model/DataType" "INTEGER" "Lcom/example/authzlint/authzlint/model/DataType;" (.ref ad2)) (S3 : Sta Z h0 "com/example/authzlint/authzlint/model/DataType" "DOUBLE" "Lcom/example/authzlint/authzlint/model/DataType;" (.ref ad3)) (S4 : Sta Z h0 "com/example/authzlint/authzlint/model/DataType" "TIME" "Lcom/example/authzlint/authzlint/model/DataType;" (.ref ad4)) (S5 : Sta Z h0 "com/example/authzlint/authzlint/model/DataType" "DATE" "Lcom/example/authzlint/authzlint/model/DataType;" (.ref ad5)) (S6 : Sta Z h0 "com/example/authzlint/authzlint/model/DataType" "DATE_TIME" "Lcom/example/authzlint/authzlint/model/DataType;" (.ref ad6)) (S7 : Sta Z h0 "com/example/authzlint/authzlint/model/DataType" "ANY_URI" "Lcom/example/authzlint/authzlint/model/DataType;" (.ref ad7)) (S8 : Sta Z h0 "com/example/authzlint/authzlint/model/DataType" "HEX_BINARY" "Lcom/example/authzlint/authzlint/model/DataType;" (.ref ad8)) (S9 : Sta Z h0 "com/example/authzlint/authzlint/model/DataType" "BASE64_BINARY" "Lcom/example/authzlint/authzlint/model/DataType;" (.ref ad9)) (S10 : Sta Z h0 "com/example/authzlint/authzlint/model/DataType" "DAY_TIME_DURATION" "Lcom/example/authzlint/authzlint/model/DataType;" (.ref ad10)) (S11 : Sta Z h0 "com/example/authzlint/authzlint/model/DataType" "YEAR_MONTH_DURATION" "Lcom/example/authzlint/authzlint/model/DataType;" (.ref ad11)) (S12 : Sta Z h0 "com/example/authzlint/authzlint/model/DataType" "X500_NAME" "Lcom/example/authzlint/authzlint/model/DataType;" (.ref ad12)) (S13 : Sta Z h0 "com/example/authzlint/authzlint/model/DataType" "RFC822_NAME" "Lcom/example/authzlint/authzlint/model/DataType;" (.ref ad13)) (S14 : Sta Z h0 "com/example/authzlint/authzlint/model/DataType" "IP_ADDRESS" "Lcom/example/authzlint/authzlint/model/DataType;" (.ref ad14)) (S15 : Sta Z h0 "com/example/authzlint/authzlint/model/DataType" "DNS_NAME" "Lcom/example/authzlint/authzlint/model/DataType;" (.ref ad15)) (S16 : Sta Z h0 "com/example/authzlint/authzlint/model/DataType" "XPATH_EXPRESSION" "Lcom/example/authzlint/authzlint/model/DataType;" (.ref ad16)) (Ex0 : Exa Z h0 ad0 "com/example/authzlint/authzlint/model/DataType") (Ex1 : Exa Z h0 ad1 "com/example/authzlint/authzlint/model/DataType") (Ex2 : Exa Z h0 ad2 "com/example/authzlint/authzlint/model/DataType") (Ex3 : Exa Z h0 ad3 "com/example/authzlint/authzlint/model/DataType") (Ex4 : Exa Z h0 ad4 "com/example/authzlint/authzlint/model/DataType") (Ex5 : Exa Z h0 ad5 "com/example/authzlint/authzlint/model/DataType") (Ex6 : Exa Z h0 ad6 "com/example/authzlint/authzlint/model/DataType") (Ex7 : Exa Z h0 ad7 "com/example/authzlint/authzlint/model/DataType") (Ex8 : Exa Z h0 ad8 "com/example/authzlint/authzlint/model/DataType") (Ex9 : Exa Z h0 ad9 "com/example/authzlint/authzlint/model/DataType") (Ex10 : Exa Z h0 ad10 "com/example/authzlint/authzlint/model/DataType") (Ex11 : Exa Z h0 ad11 "com/example/authzlint/authzlint/model/DataType") (Ex12 : Exa Z h0 ad12 "com/example/authzlint/authzlint/model/DataType") (Ex13 : Exa Z h0 ad13 "com/example/authzlint/authzlint/model/DataType") (Ex14 : Exa Z h0 ad14 "com/example/authzlint/authzlint/model/DataType") (Ex15 : Exa Z h0 ad15 "com/example/authzlint/authzlint/model/DataType") (Ex16 : Exa Z h0 ad16 "com/example/authzlint/authzlint/model/DataType") (ExA : Exa Z h0 a "com/example/authzlint/authzlint/model/DataType") (hkk : kk < 17) (hk : ((p1 &&& (2147483647 : Int32)) % (17 : Int32)) = Int32.ofNat kk) (hget : ([(.ref ad0), (.ref ad1), (.ref ad2), (.ref ad3), (.ref ad4), (.ref ad5), (.ref ad6), (.ref ad7), (.ref ad8), (.ref ad9), (.ref ad10), (.ref ad11), (.ref ad12), (.ref ad13), (.ref ad14), (.ref ad15), (.ref ad16)] : List Value).getD kk .null = (.ref a)) (hc133 : ¬ (((p1 &&& (2147483647 : Int32)) % (17 : Int32)) = (4 : Int32))) (hc138 : ¬ (((p1 &&& (2147483647 : Int32)) % (17 : Int32)) = (5 : Int32))) (hc144 : ¬ (((p1 &&& (2147483647 : Int32)) % (17 : Int32)) = (6 : Int32))) (hc160 : (if a = ad4 ∨ a = ad5 ∨ a = ad6 then (1 : Int32) else 0) = (0 : Int32)) :
    MetFree l x (head1 (Jvm.Cond.code x code maxLocals ret :: ws) room_1) (fun aa U => aa = #[(.int p1)] ∧ Z.Warmed39 U.vm ∧ U.heap = h0) (fun _ _ _ _ _ => True) (fun _ U o U' => ∃ v L, o = .returned v ∧ QF (some (.int (1 : Int32))) h0 n0 v U'.heap L ∧ FrameEnd U o U' L room_1.cells room_1.slots) := by
  refine MetFree.of_bodySF (plainFor_of_name pn_com_example_authzlint_authzlint_model_DataTypeHasTimeZonesPinLaw) hisR ?_
  intro p e s m args below meth c s₁ Bd hml0 hP hK
  obtain ⟨rfl, hZ, hh⟩ := hP
  have hx := Bd.exec
  have hby := Bd.bytes
  have hml : c.maxLocals = 5 := hml0
  have hown : s.vm.findClass "com/example/authzlint/authzlint/model/DataTypeHasTimeZonesPinLaw" = some m.cls := findClass_of_methodNamed Bd.named
  have hnm := (name_of_methodNamed Bd.named Bd.method).1
  have X0 : Stand p l e room_1 s m #[(.int p1)] below meth c s₁ [] 0 0 := Stand.of_body Bd
  have e0 : s₁.heap = h0 := by rw [← hh, Bd.state]; rfl
  have N0 := Fr.nil n0
  have pre0 : ∀ t, Steps p.tables e below (s₁.setTop (mkF m 0 #[.val (.int p1), .unset, .unset, .unset, .unset] [])) t → Steps p.tables e below (s₁.setTop (entryFrame m #[(.int p1)] maxLocals)) t := fun t k => castTop (ef_0 m p1) k
  obtain ⟨T1, h1, k1, X1, e1, E1, A1, O1, st1⟩ := newR X0 hx hZ hown (ow hw 0 rfl) (ow hw 1 rfl) e0 (g := (mkF m 2 #[.val (.int p1), .unset, .unset, .unset, .unset] [(.int (17 : Int32))])) rfl (hb hby at_2) rfl (by decide) (cap := 17) (by decide) (by decide) (by decide) (by decide)
  obtain ⟨b1, g_b1⟩ : ∃ z, z = h0.size := ⟨_, rfl⟩
  rw [← g_b1] at A1 st1
  have g0_b1 : n0 ≤ b1 := Nat.le_trans Z0 (Nat.le_of_eq g_b1.symm)
  have sz_b1 : h0.size ≤ b1 := Nat.le_trans (Nat.le_refl _) (Nat.le_of_eq g_b1.symm)
  have ne_ad0_b1 : ad0 ≠ b1 := Nat.ne_of_lt (Nat.lt_of_lt_of_le Ex0.lt (Nat.le_of_eq g_b1.symm))
  have ne_ad1_b1 : ad1 ≠ b1 := Nat.ne_of_lt (Nat.lt_of_lt_of_le Ex1.lt (Nat.le_of_eq g_b1.symm))
  have ne_ad2_b1 : ad2 ≠ b1 := Nat.ne_of_lt (Nat.lt_of_lt_of_le Ex2.lt (Nat.le_of_eq g_b1.symm))
  have ne_ad3_b1 : ad3 ≠ b1 := Nat.ne_of_lt (Nat.lt_of_lt_of_le Ex3.lt (Nat.le_of_eq g_b1.symm))
  have ne_ad4_b1 : ad4 ≠ b1 := Nat.ne_of_lt (Nat.lt_of_lt_of_le Ex4.lt (Nat.le_of_eq g_b1.symm))
  have ne_ad5_b1 : ad5 ≠ b1 := Nat.ne_of_lt (Nat.lt_of_lt_of_le Ex5.lt (Nat.le_of_eq g_b1.symm))
  have ne_ad6_b1 : ad6 ≠ b1 := Nat.ne_of_lt (Nat.lt_of_lt_of_le Ex6.lt (Nat.le_of_eq g_b1.symm))
  have ne_ad7_b1 : ad7 ≠ b1 := Nat.ne_of_lt (Nat.lt_of_lt_of_le Ex7.lt (Nat.le_of_eq g_b1.symm))
  have ne_ad8_b1 : ad8 ≠ b1 := Nat.ne_of_lt (Nat.lt_of_lt_of_le Ex8.lt (Nat.le_of_eq g_b1.symm))
  have ne_ad9_b1 : ad9 ≠ b1 := Nat.ne_of_lt (Nat.lt_of_lt_of_le Ex9.lt (Nat.le_of_eq g_b1.symm))
  have ne_ad10_b1 : ad10 ≠ b1 := Nat.ne_of_lt (Nat.lt_of_lt_of_le Ex10.lt (Nat.le_of_eq g_b1.symm))
  have ne_ad11_b1 : ad11 ≠ b1 := Nat.ne_of_lt (Nat.lt_of_lt_of_le Ex11.lt (Nat.le_of_eq g_b1.symm))
  have ne_ad12_b1 : ad12 ≠ b1 := Nat.ne_of_lt (Nat.lt_of_lt_of_le Ex12.lt (Nat.le_of_eq g_b1.symm))
  have ne_ad13_b1 : ad13 ≠ b1 := Nat.ne_of_lt (Nat.lt_of_lt_of_le Ex13.lt (Nat.le_of_eq g_b1.symm))
  have ne_ad14_b1 : ad14 ≠ b1 := Nat.ne_of_lt (Nat.lt_of_lt_of_le Ex14.lt (Nat.le_of_eq g_b1.symm))
  have ne_ad15_b1 : ad15 ≠ b1 := Nat.ne_of_lt (Nat.lt_of_lt_of_le Ex15.lt (Nat.le_of_eq g_b1.symm))
  have ne_ad16_b1 : ad16 ≠ b1 := Nat.ne_of_lt (Nat.lt_of_lt_of_le Ex16.lt (Nat.le_of_eq g_b1.symm))
  have ne_a_b1 : a ≠ b1 := Nat.ne_of_lt (Nat.lt_of_lt_of_le ExA.lt (Nat.le_of_eq g_b1.symm))
  have V_b1 : Arv Z h1 b1 k1 (.object "com/example/authzlint/authzlint/model/DataType") (17 : Int32) [.null, .null, .null, .null, .null, .null, .null, .null, .null, .null, .null, .null, .null, .null, .null, .null, .null] .null := (Arv.new A1 (by decide)).pad (pad_rep [] .null 17)
  have c3 := S0.ext E1
  obtain ⟨T2, X2, e2, st2⟩ := getS2 X1 hx hZ hown (host := "") (Or.inl (ow hw 2 rfl)) Via.refl e1 c3 (g := (mkF m 7 #[.val (.int p1), .unset, .unset, .unset, .unset] [(.int (0 : Int32)), (.ref b1), (.ref b1)])) rfl (hb hby at_7)
  obtain ⟨clz4, Arz4, qz4, Sz4, Nz4, Hz4, Gz4⟩ := V_b1
  have hin5 : ¬ ((0 : Int32) < 0 ∨ clz4.slots.size ≤ ((0 : Int32)).toNatClampNeg) := inb_of Sz4 ⟨by decide, by decide⟩
  have c6 := Ex0.ext E1
  obtain ⟨T5, h5, X5, e5, W5, st5⟩ := stR X2 hx hZ e2 Arz4 (j := (0 : Int32)) hin5 rfl (Sto.ofV Arz4 qz4 O1 (Ins.self c6)) (g := (mkF m 10 #[.val (.int p1), .unset, .unset, .unset, .unset] [(.ref ad0), (.int (0 : Int32)), (.ref b1), (.ref b1)])) rfl rfl (hb hby at_10)
  have V5 : Arv Z h5 b1 k1 (.object "com/example/authzlint/authzlint/model/DataType") (17 : Int32) [(.ref ad0), .null, .null, .null, .null, .null, .null, .null, .null, .null, .null, .null, .null, .null, .null, .null, .null] .null := Arv.set Arz4 qz4 Sz4 Nz4 Hz4 Gz4 rfl W5 0 rfl (Nat.le_of_ble_eq_true rfl)
  have N5 := Fr.snoc X5 N0 g0_b1
  have c8 := S1.ext E1
  have c9 := c8.wr W5
  obtain ⟨T7, X7, e7, st7⟩ := getS2 X5 hx hZ hown (host := "") (Or.inl (ow hw 6 rfl)) Via.refl e5 c9 (g := (mkF m 13 #[.val (.int p1), .unset, .unset, .unset, .unset] [(.int (1 : Int32)), (.ref b1), (.ref b1)])) rfl (hb hby at_13)
  obtain ⟨clz10, Arz10, qz10, Sz10, Nz10, Hz10, Gz10⟩ := V5
  have hin11 : ¬ ((1 : Int32) < 0 ∨ clz10.slots.size ≤ ((1 : Int32)).toNatClampNeg) := inb_of Sz10 ⟨by decide, by decide⟩
  have c12 := Ex1.ext E1
  have c13 := c12.wr W5
  obtain ⟨T11, h11, X11, e11, W11, st11⟩ := stR X7 hx hZ e7 Arz10 (j := (1 : Int32)) hin11 rfl (Sto.ofV Arz10 qz10 O1 (Ins.self c13)) (g := (mkF m 16 #[.val (.int p1), .unset, .unset, .unset, .unset] [(.ref ad1), (.int (1 : Int32)), (.ref b1), (.ref b1)])) rfl rfl (hb hby at_16)
  have V11 : Arv Z h11 b1 k1 (.object "com/example/authzlint/authzlint/model/DataType") (17 : Int32) [(.ref ad0), (.ref ad1), .null, .null, .null, .null, .null, .null, .null, .null, .null, .null, .null, .null, .null, .null, .null] .null := Arv.set Arz10 qz10 Sz10 Nz10 Hz10 Gz10 rfl W11 1 rfl (Nat.le_of_ble_eq_true rfl)
  have N11 := Fr.snoc X11 N5 g0_b1
  have c15 := S2.ext E1
  have c16 := c15.wr W5
  have c17 := c16.wr W11
  obtain ⟨T14, X14, e14, st14⟩ := getS2 X11 hx hZ hown (host := "") (Or.inl (ow hw 8 rfl)) Via.refl e11 c17 (g := (mkF m 19 #[.val (.int p1), .unset, .unset, .unset, .unset] [(.int (2 : Int32)), (.ref b1), (.ref b1)])) rfl (hb hby at_19)
  obtain ⟨clz18, Arz18, qz18, Sz18, Nz18, Hz18, Gz18⟩ := V11
  have hin19 : ¬ ((2 : Int32) < 0 ∨ clz18.slots.size ≤ ((2 : Int32)).toNatClampNeg) := inb_of Sz18 ⟨by decide, by decide⟩
  have c20 := Ex2.ext E1
  have c21 := c20.wr W5
  have c22 := c21.wr W11
  obtain ⟨T19, h19, X19, e19, W19, st19⟩ := stR X14 hx hZ e14 Arz18 (j := (2 : Int32)) hin19 rfl (Sto.ofV Arz18 qz18 O1 (Ins.self c22)) (g := (mkF m 22 #[.val (.int p1), .unset, .unset, .unset, .unset] [(.ref ad2), (.int (2 : Int32)), (.ref b1), (.ref b1)])) rfl rfl (hb hby at_22)
  have V19 : Arv Z h19 b1 k1 (.object "com/example/authzlint/authzlint/model/DataType") (17 : Int32) [(.ref ad0), (.ref ad1), (.ref ad2), .null, .null, .null, .null, .null, .null, .null, .null, .null, .null, .null, .null, .null, .null] .null := Arv.set Arz18 qz18 Sz18 Nz18 Hz18 Gz18 rfl W19 2 rfl (Nat.le_of_ble_eq_true rfl)
  have N19 := Fr.snoc X19 N11 g0_b1
  have c24 := S3.ext E1
  have c25 := c24.wr W5
  have c26 := c25.wr W11
  have c27 := c26.wr W19
  obtain ⟨T23, X23, e23, st23⟩ := getS2 X19 hx hZ hown (host := "") (Or.inl (ow hw 10 rfl)) Via.refl e19 c27 (g := (mkF m 25 #[.val (.int p1), .unset, .unset, .unset, .unset] [(.int (3 : Int32)), (.ref b1), (.ref b1)])) rfl (hb hby at_25)
  obtain ⟨clz28, Arz28, qz28, Sz28, Nz28, Hz28, Gz28⟩ := V19
  have hin29 : ¬ ((3 : Int32) < 0 ∨ clz28.slots.size ≤ ((3 : Int32)).toNatClampNeg) := inb_of Sz28 ⟨by decide, by decide⟩
  have c30 := Ex3.ext E1
  have c31 := c30.wr W5
  have c32 := c31.wr W11
  have c33 := c32.wr W19
  obtain ⟨T29, h29, X29, e29, W29, st29⟩ := stR X23 hx hZ e23 Arz28 (j := (3 : Int32)) hin29 rfl (Sto.ofV Arz28 qz28 O1 (Ins.self c33)) (g := (mkF m 28 #[.val (.int p1), .unset, .unset, .unset, .unset] [(.ref ad3), (.int (3 : Int32)), (.ref b1), (.ref b1)])) rfl rfl (hb hby at_28)
  have V29 : Arv Z h29 b1 k1 (.object "com/example/authzlint/authzlint/model/DataType") (17 : Int32) [(.ref ad0), (.ref ad1), (.ref ad2), (.ref ad3), .null, .null, .null, .null, .null, .null, .null, .null, .null, .null, .null, .null, .null] .null := Arv.set Arz28 qz28 Sz28 Nz28 Hz28 Gz28 rfl W29 3 rfl (Nat.le_of_ble_eq_true rfl)
  have N29 := Fr.snoc X29 N19 g0_b1
  have c35 := S4.ext E1
  have c36 := c35.wr W5
  have c37 := c36.wr W11
  have c38 := c37.wr W19
  have c39 := c38.wr W29
  obtain ⟨T34, X34, e34, st34⟩ := getS2 X29 hx hZ hown (host := "") (Or.inl (ow hw 12 rfl)) Via.refl e29 c39 (g := (mkF m 31 #[.val (.int p1), .unset, .unset, .unset, .unset] [(.int (4 : Int32)), (.ref b1), (.ref b1)])) rfl (hb hby at_31)
  obtain ⟨clz40, Arz40, qz40, Sz40, Nz40, Hz40, Gz40⟩ := V29
  have hin41 : ¬ ((4 : Int32) < 0 ∨ clz40.slots.size ≤ ((4 : Int32)).toNatClampNeg) := inb_of Sz40 ⟨by decide, by decide⟩
  have c42 := Ex4.ext E1
  have c43 := c42.wr W5
  have c44 := c43.wr W11
  have c45 := c44.wr W19
  have c46 := c45.wr W29
  obtain ⟨T41, h41, X41, e41, W41, st41⟩ := stR X34 hx hZ e34 Arz40 (j := (4 : Int32)) hin41 rfl (Sto.ofV Arz40 qz40 O1 (Ins.self c46)) (g := (mkF m 34 #[.val (.int p1), .unset, .unset, .unset, .unset] [(.ref ad4), (.int (4 : Int32)), (.ref b1), (.ref b1)])) rfl rfl (hb hby at_34)
  have V41 : Arv Z h41 b1 k1 (.object "com/example/authzlint/authzlint/model/DataType") (17 : Int32) [(.ref ad0), (.ref ad1), (.ref ad2), (.ref ad3), (.ref ad4), .null, .null, .null, .null, .null, .null, .null, .null, .null, .null, .null, .null] .null := Arv.set Arz40 qz40 Sz40 Nz40 Hz40 Gz40 rfl W41 4 rfl (Nat.le_of_ble_eq_true rfl)
  have N41 := Fr.snoc X41 N29 g0_b1
  have c48 := S5.ext E1
  have c49 := c48.wr W5
  have c50 := c49.wr W11
  have c51 := c50.wr W19
  have c52 := c51.wr W29
  have c53 := c52.wr W41
  obtain ⟨T47, X47, e47, st47⟩ := getS2 X41 hx hZ hown (host := "") (Or.inl (ow hw 14 rfl)) Via.refl e41 c53 (g := (mkF m 37 #[.val (.int p1), .unset, .unset, .unset, .unset] [(.int (5 : Int32)), (.ref b1), (.ref b1)])) rfl (hb hby at_37)
  obtain ⟨clz54, Arz54, qz54, Sz54, Nz54, Hz54, Gz54⟩ := V41
  have hin55 : ¬ ((5 : Int32) < 0 ∨ clz54.slots.size ≤ ((5 : Int32)).toNatClampNeg) := inb_of Sz54 ⟨by decide, by decide⟩
  have c56 := Ex5.ext E1
  have c57 := c56.wr W5
  have c58 := c57.wr W11
  have c59 := c58.wr W19
  have c60 := c59.wr W29
  have c61 := c60.wr W41
  obtain ⟨T55, h55, X55, e55, W55, st55⟩ := stR X47 hx hZ e47 Arz54 (j := (5 : Int32)) hin55 rfl (Sto.ofV Arz54 qz54 O1 (Ins.self c61)) (g := (mkF m 40 #[.val (.int p1), .unset, .unset, .unset, .unset] [(.ref ad5), (.int (5 : Int32)), (.ref b1), (.ref b1)])) rfl rfl (hb hby at_40)
  have V55 : Arv Z h55 b1 k1 (.object "com/example/authzlint/authzlint/model/DataType") (17 : Int32) [(.ref ad0), (.ref ad1), (.ref ad2), (.ref ad3), (.ref ad4), (.ref ad5), .null, .null, .null, .null, .null, .null, .null, .null, .null, .null, .null] .null := Arv.set Arz54 qz54 Sz54 Nz54 Hz54 Gz54 rfl W55 5 rfl (Nat.le_of_ble_eq_true rfl)
  have N55 := Fr.snoc X55 N41 g0_b1
  have c63 := S6.ext E1
  have c64 := c63.wr W5
  have c65 := c64.wr W11
  have c66 := c65.wr W19
  have c67 := c66.wr W29
  have c68 := c67.wr W41
  have c69 := c68.wr W55
  obtain ⟨T62, X62, e62, st62⟩ := getS2 X55 hx hZ hown (host := "") (Or.inl (ow hw 16 rfl)) Via.refl e55 c69 (g := (mkF m 44 #[.val (.int p1), .unset, .unset, .unset, .unset] [(.int (6 : Int32)), (.ref b1), (.ref b1)])) rfl (hb hby at_44)
  obtain ⟨clz70, Arz70, qz70, Sz70, Nz70, Hz70, Gz70⟩ := V55
  have hin71 : ¬ ((6 : Int32) < 0 ∨ clz70.slots.size ≤ ((6 : Int32)).toNatClampNeg) := inb_of Sz70 ⟨by decide, by decide⟩
  have c72 := Ex6.ext E1
  have c73 := c72.wr W5
  have c74 := c73.wr W11
  have c75 := c74.wr W19
  have c76 := c75.wr W29
  have c77 := c76.wr W41
  have c78 := c77.wr W55
  obtain ⟨T71, h71, X71, e71, W71, st71⟩ := stR X62 hx hZ e62 Arz70 (j := (6 : Int32)) hin71 rfl (Sto.ofV Arz70 qz70 O1 (Ins.self c78)) (g := (mkF m 47 #[.val (.int p1), .unset, .unset, .unset, .unset] [(.ref ad6), (.int (6 : Int32)), (.ref b1), (.ref b1)])) rfl rfl (hb hby at_47)
  have V71 : Arv Z h71 b1 k1 (.object "com/example/authzlint/authzlint/model/DataType") (17 : Int32) [(.ref ad0), (.ref ad1), (.ref ad2), (.ref ad3), (.ref ad4), (.ref ad5), (.ref ad6), .null, .null, .null, .null, .null, .null, .null, .null, .null, .null] .null := Arv.set Arz70 qz70 Sz70 Nz70 Hz70 Gz70 rfl W71 6 rfl (Nat.le_of_ble_eq_true rfl)
  have N71 := Fr.snoc X71 N55 g0_b1
  have c80 := S7.ext E1
  have c81 := c80.wr W5
  have c82 := c81.wr W11
  have c83 := c82.wr W19
  have c84 := c83.wr W29
  have c85 := c84.wr W41
  have c86 := c85.wr W55
  have c87 := c86.wr W71
  obtain ⟨T79, X79, e79, st79⟩ := getS2 X71 hx hZ hown (host := "") (Or.inl (ow hw 18 rfl)) Via.refl e71 c87 (g := (mkF m 51 #[.val (.int p1), .unset, .unset, .unset, .unset] [(.int (7 : Int32)), (.ref b1), (.ref b1)])) rfl (hb hby at_51)
  obtain ⟨clz88, Arz88, qz88, Sz88, Nz88, Hz88, Gz88⟩ := V71
  have hin89 : ¬ ((7 : Int32) < 0 ∨ clz88.slots.size ≤ ((7 : Int32)).toNatClampNeg) := inb_of Sz88 ⟨by decide, by decide⟩
  have c90 := Ex7.ext E1
  have c91 := c90.wr W5
  have c92 := c91.wr W11
  have c93 := c92.wr W19
  have c94 := c93.wr W29
  have c95 := c94.wr W41
  have c96 := c95.wr W55
  have c97 := c96.wr W71
  obtain ⟨T89, h89, X89, e89, W89, st89⟩ := stR X79 hx hZ e79 Arz88 (j := (7 : Int32)) hin89 rfl (Sto.ofV Arz88 qz88 O1 (Ins.self c97)) (g := (mkF m 54 #[.val (.int p1), .unset, .unset, .unset, .unset] [(.ref ad7), (.int (7 : Int32)), (.ref b1), (.ref b1)])) rfl rfl (hb hby at_54)
  have V89 : Arv Z h89 b1 k1 (.object "com/example/authzlint/authzlint/model/DataType") (17 : Int32) [(.ref ad0), (.ref ad1), (.ref ad2), (.ref ad3), (.ref ad4), (.ref ad5), (.ref ad6), (.ref ad7), .null, .null, .null, .null, .null, .null, .null, .null, .null] .null := Arv.set Arz88 qz88 Sz88 Nz88 Hz88 Gz88 rfl W89 7 rfl (Nat.le_of_ble_eq_true rfl)
  have N89 := Fr.snoc X89 N71 g0_b1
  have c99 := S8.ext E1
  have c100 := c99.wr W5
  have c101 := c100.wr W11
  have c102 := c101.wr W19
  have c103 := c102.wr W29
  have c104 := c103.wr W41
  have c105 := c104.wr W55
  have c106 := c105.wr W71
  have c107 := c106.wr W89
  obtain ⟨T98, X98, e98, st98⟩ := getS2 X89 hx hZ hown (host := "") (Or.inl (ow hw 20 rfl)) Via.refl e89 c107 (g := (mkF m 58 #[.val (.int p1), .unset, .unset, .unset, .unset] [(.int (8 : Int32)), (.ref b1), (.ref b1)])) rfl (hb hby at_58)
  obtain ⟨clz108, Arz108, qz108, Sz108, Nz108, Hz108, Gz108⟩ := V89
  have hin109 : ¬ ((8 : Int32) < 0 ∨ clz108.slots.size ≤ ((8 : Int32)).toNatClampNeg) := inb_of Sz108 ⟨by decide, by decide⟩
  have c110 := Ex8.ext E1
  have c111 := c110.wr W5
  have c112 := c111.wr W11
  have c113 := c112.wr W19
  have c114 := c113.wr W29
  have c115 := c114.wr W41
  have c116 := c115.wr W55
  have c117 := c116.wr W71
  have c118 := c117.wr W89
  obtain ⟨T109, h109, X109, e109, W109, st109⟩ := stR X98 hx hZ e98 Arz108 (j := (8 : Int32)) hin109 rfl (Sto.ofV Arz108 qz108 O1 (Ins.self c118)) (g := (mkF m 61 #[.val (.int p1), .unset, .unset, .unset, .unset] [(.ref ad8), (.int (8 : Int32)), (.ref b1), (.ref b1)])) rfl rfl (hb hby at_61)
  have V109 : Arv Z h109 b1 k1 (.object "com/example/authzlint/authzlint/model/DataType") (17 : Int32) [(.ref ad0), (.ref ad1), (.ref ad2), (.ref ad3), (.ref ad4), (.ref ad5), (.ref ad6), (.ref ad7), (.ref ad8), .null, .null, .null, .null, .null, .null, .null, .null] .null := Arv.set Arz108 qz108 Sz108 Nz108 Hz108 Gz108 rfl W109 8 rfl (Nat.le_of_ble_eq_true rfl)
  have N109 := Fr.snoc X109 N89 g0_b1
  have c120 := S9.ext E1
  have c121 := c120.wr W5
  have c122 := c121.wr W11
  have c123 := c122.wr W19
  have c124 := c123.wr W29
  have c125 := c124.wr W41
  have c126 := c125.wr W55
  have c127 := c126.wr W71
  have c128 := c127.wr W89
  have c129 := c128.wr W109
  obtain ⟨T119, X119, e119, st119⟩ := getS2 X109 hx hZ hown (host := "") (Or.inl (ow hw 22 rfl)) Via.refl e109 c129 (g := (mkF m 65 #[.val (.int p1), .unset, .unset, .unset, .unset] [(.int (9 : Int32)), (.ref b1), (.ref b1)])) rfl (hb hby at_65)
  obtain ⟨clz130, Arz130, qz130, Sz130, Nz130, Hz130, Gz130⟩ := V109
  have hin131 : ¬ ((9 : Int32) < 0 ∨ clz130.slots.size ≤ ((9 : Int32)).toNatClampNeg) := inb_of Sz130 ⟨by decide, by decide⟩
  have c132 := Ex9.ext E1
  have c133 := c132.wr W5
  have c134 := c133.wr W11
  have c135 := c134.wr W19
  have c136 := c135.wr W29
  have c137 := c136.wr W41
  have c138 := c137.wr W55
  have c139 := c138.wr W71
  have c140 := c139.wr W89
  have c141 := c140.wr W109
  obtain ⟨T131, h131, X131, e131, W131, st131⟩ := stR X119 hx hZ e119 Arz130 (j := (9 : Int32)) hin131 rfl (Sto.ofV Arz130 qz130 O1 (Ins.self c141)) (g := (mkF m 68 #[.val (.int p1), .unset, .unset, .unset, .unset] [(.ref ad9), (.int (9 : Int32)), (.ref b1), (.ref b1)])) rfl rfl (hb hby at_68)
  have V131 : Arv Z h131 b1 k1 (.object "com/example/authzlint/authzlint/model/DataType") (17 : Int32) [(.ref ad0), (.ref ad1), (.ref ad2), (.ref ad3), (.ref ad4), (.ref ad5), (.ref ad6), (.ref ad7), (.ref ad8), (.ref ad9), .null, .null, .null, .null, .null, .null, .null] .null := Arv.set Arz130 qz130 Sz130 Nz130 Hz130 Gz130 rfl W131 9 rfl (Nat.le_of_ble_eq_true rfl)
  have N131 := Fr.snoc X131 N109 g0_b1
  have c143 := S10.ext E1
  have c144 := c143.wr W5
  have c145 := c144.wr W11
  have c146 := c145.wr W19
  have c147 := c146.wr W29
  have c148 := c147.wr W41
  have c149 := c148.wr W55
  have c150 := c149.wr W71
  have c151 := c150.wr W89
  have c152 := c151.wr W109
  have c153 := c152.wr W131
  obtain ⟨T142, X142, e142, st142⟩ := getS2 X131 hx hZ hown (host := "") (Or.inl (ow hw 24 rfl)) Via.refl e131 c153 (g := (mkF m 72 #[.val (.int p1), .unset, .unset, .unset, .unset] [(.int (10 : Int32)), (.ref b1), (.ref b1)])) rfl (hb hby at_72)
  obtain ⟨clz154, Arz154, qz154, Sz154, Nz154, Hz154, Gz154⟩ := V131
  have hin155 : ¬ ((10 : Int32) < 0 ∨ clz154.slots.size ≤ ((10 : Int32)).toNatClampNeg) := inb_of Sz154 ⟨by decide, by decide⟩
  have c156 := Ex10.ext E1
  have c157 := c156.wr W5
  have c158 := c157.wr W11
  have c159 := c158.wr W19
  have c160 := c159.wr W29
  have c161 := c160.wr W41
  have c162 := c161.wr W55
  have c163 := c162.wr W71
  have c164 := c163.wr W89
  have c165 := c164.wr W109
  have c166 := c165.wr W131
  obtain ⟨T155, h155, X155, e155, W155, st155⟩ := stR X142 hx hZ e142 Arz154 (j := (10 : Int32)) hin155 rfl (Sto.ofV Arz154 qz154 O1 (Ins.self c166)) (g := (mkF m 75 #[.val (.int p1), .unset, .unset, .unset, .unset] [(.ref ad10), (.int (10 : Int32)), (.ref b1), (.ref b1)])) rfl rfl (hb hby at_75)
  have V155 : Arv Z h155 b1 k1 (.object "com/example/authzlint/authzlint/model/DataType") (17 : Int32) [(.ref ad0), (.ref ad1), (.ref ad2), (.ref ad3), (.ref ad4), (.ref ad5), (.ref ad6), (.ref ad7), (.ref ad8), (.ref ad9), (.ref ad10), .null, .null, .null, .null, .null, .null] .null := Arv.set Arz154 qz154 Sz154 Nz154 Hz154 Gz154 rfl W155 10 rfl (Nat.le_of_ble_eq_true rfl)
  have N155 := Fr.snoc X155 N131 g0_b1
  have c168 := S11.ext E1
  have c169 := c168.wr W5
  have c170 := c169.wr W11
  have c171 := c170.wr W19
  have c172 := c171.wr W29
  have c173 := c172.wr W41
  have c174 := c173.wr W55
  have c175 := c174.wr W71
  have c176 := c175.wr W89
  have c177 := c176.wr W109
  have c178 := c177.wr W131
  have c179 := c178.wr W155
  obtain ⟨T167, X167, e167, st167⟩ := getS2 X155 hx hZ hown (host := "") (Or.inl (ow hw 26 rfl)) Via.refl e155 c179 (g := (mkF m 79 #[.val (.int p1), .unset, .unset, .unset, .unset] [(.int (11 : Int32)), (.ref b1), (.ref b1)])) rfl (hb hby at_79)
  obtain ⟨clz180, Arz180, qz180, Sz180, Nz180, Hz180, Gz180⟩ := V155
  have hin181 : ¬ ((11 : Int32) < 0 ∨ clz180.slots.size ≤ ((11 : Int32)).toNatClampNeg) := inb_of Sz180 ⟨by decide, by decide⟩
  have c182 := Ex11.ext E1
  have c183 := c182.wr W5
  have c184 := c183.wr W11
  have c185 := c184.wr W19
  have c186 := c185.wr W29
  have c187 := c186.wr W41
  have c188 := c187.wr W55
  have c189 := c188.wr W71
  have c190 := c189.wr W89
  have c191 := c190.wr W109
  have c192 := c191.wr W131
  have c193 := c192.wr W155
  obtain ⟨T181, h181, X181, e181, W181, st181⟩ := stR X167 hx hZ e167 Arz180 (j := (11 : Int32)) hin181 rfl (Sto.ofV Arz180 qz180 O1 (Ins.self c193)) (g := (mkF m 82 #[.val (.int p1), .unset, .unset, .unset, .unset] [(.ref ad11), (.int (11 : Int32)), (.ref b1), (.ref b1)])) rfl rfl (hb hby at_82)
  have V181 : Arv Z h181 b1 k1 (.object "com/example/authzlint/authzlint/model/DataType") (17 : Int32) [(.ref ad0), (.ref ad1), (.ref ad2), (.ref ad3), (.ref ad4), (.ref ad5), (.ref ad6), (.ref ad7), (.ref ad8), (.ref ad9), (.ref ad10), (.ref ad11), .null, .null, .null, .null, .null] .null := Arv.set Arz180 qz180 Sz180 Nz180 Hz180 Gz180 rfl W181 11 rfl (Nat.le_of_ble_eq_true rfl)
  have N181 := Fr.snoc X181 N155 g0_b1
  have c195 := S12.ext E1
  have c196 := c195.wr W5
  have c197 := c196.wr W11
  have c198 := c197.wr W19
  have c199 := c198.wr W29
  have c200 := c199.wr W41
  have c201 := c200.wr W55
  have c202 := c201.wr W71
  have c203 := c202.wr W89
  have c204 := c203.wr W109
  have c205 := c204.wr W131
  have c206 := c205.wr W155
  have c207 := c206.wr W181
  obtain ⟨T194, X194, e194, st194⟩ := getS2 X181 hx hZ hown (host := "") (Or.inl (ow hw 28 rfl)) Via.refl e181 c207 (g := (mkF m 86 #[.val (.int p1), .unset, .unset, .unset, .unset] [(.int (12 : Int32)), (.ref b1), (.ref b1)])) rfl (hb hby at_86)
  obtain ⟨clz208, Arz208, qz208, Sz208, Nz208, Hz208, Gz208⟩ := V181
  have hin209 : ¬ ((12 : Int32) < 0 ∨ clz208.slots.size ≤ ((12 : Int32)).toNatClampNeg) := inb_of Sz208 ⟨by decide, by decide⟩
  have c210 := Ex12.ext E1
  have c211 := c210.wr W5
  have c212 := c211.wr W11
  have c213 := c212.wr W19
  have c214 := c213.wr W29
  have c215 := c214.wr W41
  have c216 := c215.wr W55
  have c217 := c216.wr W71
  have c218 := c217.wr W89
  have c219 := c218.wr W109
  have c220 := c219.wr W131
  have c221 := c220.wr W155
  have c222 := c221.wr W181
  obtain ⟨T209, h209, X209, e209, W209, st209⟩ := stR X194 hx hZ e194 Arz208 (j := (12 : Int32)) hin209 rfl (Sto.ofV Arz208 qz208 O1 (Ins.self c222)) (g := (mkF m 89 #[.val (.int p1), .unset, .unset, .unset, .unset] [(.ref ad12), (.int (12 : Int32)), (.ref b1), (.ref b1)])) rfl rfl (hb hby at_89)
  have V209 : Arv Z h209 b1 k1 (.object "com/example/authzlint/authzlint/model/DataType") (17 : Int32) [(.ref ad0), (.ref ad1), (.ref ad2), (.ref ad3), (.ref ad4), (.ref ad5), (.ref ad6), (.ref ad7), (.ref ad8), (.ref ad9), (.ref ad10), (.ref ad11), (.ref ad12), .null, .null, .null, .null] .null := Arv.set Arz208 qz208 Sz208 Nz208 Hz208 Gz208 rfl W209 12 rfl (Nat.le_of_ble_eq_true rfl)
  have N209 := Fr.snoc X209 N181 g0_b1
  have c224 := S13.ext E1
  have c225 := c224.wr W5
  have c226 := c225.wr W11
  have c227 := c226.wr W19
  have c228 := c227.wr W29
  have c229 := c228.wr W41
  have c230 := c229.wr W55
  have c231 := c230.wr W71
  have c232 := c231.wr W89
  have c233 := c232.wr W109
  have c234 := c233.wr W131
  have c235 := c234.wr W155
  have c236 := c235.wr W181
  have c237 := c236.wr W209
  obtain ⟨T223, X223, e223, st223⟩ := getS2 X209 hx hZ hown (host := "") (Or.inl (ow hw 30 rfl)) Via.refl e209 c237 (g := (mkF m 93 #[.val (.int p1), .unset, .unset, .unset, .unset] [(.int (13 : Int32)), (.ref b1), (.ref b1)])) rfl (hb hby at_93)
  obtain ⟨clz238, Arz238, qz238, Sz238, Nz238, Hz238, Gz238⟩ := V209
  have hin239 : ¬ ((13 : Int32) < 0 ∨ clz238.slots.size ≤ ((13 : Int32)).toNatClampNeg) := inb_of Sz238 ⟨by decide, by decide⟩
  have c240 := Ex13.ext E1
  have c241 := c240.wr W5
  have c242 := c241.wr W11
  have c243 := c242.wr W19
  have c244 := c243.wr W29
  have c245 := c244.wr W41
  have c246 := c245.wr W55
  have c247 := c246.wr W71
  have c248 := c247.wr W89
  have c249 := c248.wr W109
  have c250 := c249.wr W131
  have c251 := c250.wr W155
  have c252 := c251.wr W181
  have c253 := c252.wr W209
  obtain ⟨T239, h239, X239, e239, W239, st239⟩ := stR X223 hx hZ e223 Arz238 (j := (13 : Int32)) hin239 rfl (Sto.ofV Arz238 qz238 O1 (Ins.self c253)) (g := (mkF m 96 #[.val (.int p1), .unset, .unset, .unset, .unset] [(.ref ad13), (.int (13 : Int32)), (.ref b1), (.ref b1)])) rfl rfl (hb hby at_96)
  have V239 : Arv Z h239 b1 k1 (.object "com/example/authzlint/authzlint/model/DataType") (17 : Int32) [(.ref ad0), (.ref ad1), (.ref ad2), (.ref ad3), (.ref ad4), (.ref ad5), (.ref ad6), (.ref ad7), (.ref ad8), (.ref ad9), (.ref ad10), (.ref ad11), (.ref ad12), (.ref ad13), .null, .null, .null] .null := Arv.set Arz238 qz238 Sz238 Nz238 Hz238 Gz238 rfl W239 13 rfl (Nat.le_of_ble_eq_true rfl)
  have N239 := Fr.snoc X239 N209 g0_b1
  have c255 := S14.ext E1
  have c256 := c255.wr W5
  have c257 := c256.wr W11
  have c258 := c257.wr W19
  have c259 := c258.wr W29
  have c260 := c259.wr W41
  have c261 := c260.wr W55
  have c262 := c261.wr W71
  have c263 := c262.wr W89
  have c264 := c263.wr W109
  have c265 := c264.wr W131
  have c266 := c265.wr W155
  have c267 := c266.wr W181
  have c268 := c267.wr W209
  have c269 := c268.wr W239
  obtain ⟨T254, X254, e254, st254⟩ := getS2 X239 hx hZ hown (host := "") (Or.inl (ow hw 32 rfl)) Via.refl e239 c269 (g := (mkF m 100 #[.val (.int p1), .unset, .unset, .unset, .unset] [(.int (14 : Int32)), (.ref b1), (.ref b1)])) rfl (hb hby at_100)
  obtain ⟨clz270, Arz270, qz270, Sz270, Nz270, Hz270, Gz270⟩ := V239
  have hin271 : ¬ ((14 : Int32) < 0 ∨ clz270.slots.size ≤ ((14 : Int32)).toNatClampNeg) := inb_of Sz270 ⟨by decide, by decide⟩
  have c272 := Ex14.ext E1
  have c273 := c272.wr W5
  have c274 := c273.wr W11
  have c275 := c274.wr W19
  have c276 := c275.wr W29
  have c277 := c276.wr W41
  have c278 := c277.wr W55
  have c279 := c278.wr W71
  have c280 := c279.wr W89
  have c281 := c280.wr W109
  have c282 := c281.wr W131
  have c283 := c282.wr W155
  have c284 := c283.wr W181
  have c285 := c284.wr W209
  have c286 := c285.wr W239
  obtain ⟨T271, h271, X271, e271, W271, st271⟩ := stR X254 hx hZ e254 Arz270 (j := (14 : Int32)) hin271 rfl (Sto.ofV Arz270 qz270 O1 (Ins.self c286)) (g := (mkF m 103 #[.val (.int p1), .unset, .unset, .unset, .unset] [(.ref ad14), (.int (14 : Int32)), (.ref b1), (.ref b1)])) rfl rfl (hb hby at_103)
  have V271 : Arv Z h271 b1 k1 (.object "com/example/authzlint/authzlint/model/DataType") (17 : Int32) [(.ref ad0), (.ref ad1), (.ref ad2), (.ref ad3), (.ref ad4), (.ref ad5), (.ref ad6), (.ref ad7), (.ref ad8), (.ref ad9), (.ref ad10), (.ref ad11), (.ref ad12), (.ref ad13), (.ref ad14), .null, .null] .null := Arv.set Arz270 qz270 Sz270 Nz270 Hz270 Gz270 rfl W271 14 rfl (Nat.le_of_ble_eq_true rfl)
  have N271 := Fr.snoc X271 N239 g0_b1
  have c288 := S15.ext E1
  have c289 := c288.wr W5
  have c290 := c289.wr W11
  have c291 := c290.wr W19
  have c292 := c291.wr W29
  have c293 := c292.wr W41
  have c294 := c293.wr W55
  have c295 := c294.wr W71
  have c296 := c295.wr W89
  have c297 := c296.wr W109
  have c298 := c297.wr W131
  have c299 := c298.wr W155
  have c300 := c299.wr W181
  have c301 := c300.wr W209
  have c302 := c301.wr W239
  have c303 := c302.wr W271
  obtain ⟨T287, X287, e287, st287⟩ := getS2 X271 hx hZ hown (host := "") (Or.inl (ow hw 34 rfl)) Via.refl e271 c303 (g := (mkF m 107 #[.val (.int p1), .unset, .unset, .unset, .unset] [(.int (15 : Int32)), (.ref b1), (.ref b1)])) rfl (hb hby at_107)
  obtain ⟨clz304, Arz304, qz304, Sz304, Nz304, Hz304, Gz304⟩ := V271
  have hin305 : ¬ ((15 : Int32) < 0 ∨ clz304.slots.size ≤ ((15 : Int32)).toNatClampNeg) := inb_of Sz304 ⟨by decide, by decide⟩
  have c306 := Ex15.ext E1
  have c307 := c306.wr W5
  have c308 := c307.wr W11
  have c309 := c308.wr W19
  have c310 := c309.wr W29
  have c311 := c310.wr W41
  have c312 := c311.wr W55
  have c313 := c312.wr W71
  have c314 := c313.wr W89
  have c315 := c314.wr W109
  have c316 := c315.wr W131
  have c317 := c316.wr W155
  have c318 := c317.wr W181
  have c319 := c318.wr W209
  have c320 := c319.wr W239
  have c321 := c320.wr W271
  obtain ⟨T305, h305, X305, e305, W305, st305⟩ := stR X287 hx hZ e287 Arz304 (j := (15 : Int32)) hin305 rfl (Sto.ofV Arz304 qz304 O1 (Ins.self c321)) (g := (mkF m 110 #[.val (.int p1), .unset, .unset, .unset, .unset] [(.ref ad15), (.int (15 : Int32)), (.ref b1), (.ref b1)])) rfl rfl (hb hby at_110)
  have V305 : Arv Z h305 b1 k1 (.object "com/example/authzlint/authzlint/model/DataType") (17 : Int32) [(.ref ad0), (.ref ad1), (.ref ad2), (.ref ad3), (.ref ad4), (.ref ad5), (.ref ad6), (.ref ad7), (.ref ad8), (.ref ad9), (.ref ad10), (.ref ad11), (.ref ad12), (.ref ad13), (.ref ad14), (.ref ad15), .null] .null := Arv.set Arz304 qz304 Sz304 Nz304 Hz304 Gz304 rfl W305 15 rfl (Nat.le_of_ble_eq_true rfl)
  have N305 := Fr.snoc X305 N271 g0_b1
  have c323 := S16.ext E1
  have c324 := c323.wr W5
  have c325 := c324.wr W11
  have c326 := c325.wr W19
  have c327 := c326.wr W29
  have c328 := c327.wr W41
  have c329 := c328.wr W55
  have c330 := c329.wr W71
  have c331 := c330.wr W89
  have c332 := c331.wr W109
  have c333 := c332.wr W131
  have c334 := c333.wr W155
  have c335 := c334.wr W181
  have c336 := c335.wr W209
  have c337 := c336.wr W239
  have c338 := c337.wr W271
  have c339 := c338.wr W305
  obtain ⟨T322, X322, e322, st322⟩ := getS2 X305 hx hZ hown (host := "") (Or.inl (ow hw 36 rfl)) Via.refl e305 c339 (g := (mkF m 114 #[.val (.int p1), .unset, .unset, .unset, .unset] [(.int (16 : Int32)), (.ref b1), (.ref b1)])) rfl (hb hby at_114)
  obtain ⟨clz340, Arz340, qz340, Sz340, Nz340, Hz340, Gz340⟩ := V305
  have hin341 : ¬ ((16 : Int32) < 0 ∨ clz340.slots.size ≤ ((16 : Int32)).toNatClampNeg) := inb_of Sz340 ⟨by decide, by decide⟩
  have c342 := Ex16.ext E1
  have c343 := c342.wr W5
  have c344 := c343.wr W11
  have c345 := c344.wr W19
  have c346 := c345.wr W29
  have c347 := c346.wr W41
  have c348 := c347.wr W55
  have c349 := c348.wr W71
  have c350 := c349.wr W89
  have c351 := c350.wr W109
  have c352 := c351.wr W131
  have c353 := c352.wr W155
  have c354 := c353.wr W181
  have c355 := c354.wr W209
  have c356 := c355.wr W239
  have c357 := c356.wr W271
  have c358 := c357.wr W305
  obtain ⟨T341, h341, X341, e341, W341, st341⟩ := stR X322 hx hZ e322 Arz340 (j := (16 : Int32)) hin341 rfl (Sto.ofV Arz340 qz340 O1 (Ins.self c358)) (g := (mkF m 117 #[.val (.int p1), .unset, .unset, .unset, .unset] [(.ref ad16), (.int (16 : Int32)), (.ref b1), (.ref b1)])) rfl rfl (hb hby at_117)
  have V341 : Arv Z h341 b1 k1 (.object "com/example/authzlint/authzlint/model/DataType") (17 : Int32) [(.ref ad0), (.ref ad1), (.ref ad2), (.ref ad3), (.ref ad4), (.ref ad5), (.ref ad6), (.ref ad7), (.ref ad8), (.ref ad9), (.ref ad10), (.ref ad11), (.ref ad12), (.ref ad13), (.ref ad14), (.ref ad15), (.ref ad16)] .null := Arv.set Arz340 qz340 Sz340 Nz340 Hz340 Gz340 rfl W341 16 rfl (Nat.le_of_ble_eq_true rfl)
  have N341 := Fr.snoc X341 N305 g0_b1
  obtain ⟨clz359, Arz359, qz359, Sz359, Nz359, Hz359, Gz359⟩ := V341
  have hin360 : ¬ (((p1 &&& (2147483647 : Int32)) % (17 : Int32)) < 0 ∨ clz359.slots.size ≤ (((p1 &&& (2147483647 : Int32)) % (17 : Int32))).toNatClampNeg) := by rw [hk]; exact inb_of Sz359 ⟨(own_in17 kk hkk).1, (own_in17 kk hkk).2.1⟩
  have hat360 : clz359.slots[(((p1 &&& (2147483647 : Int32)) % (17 : Int32))).toNatClampNeg]? = some (.ref a) := Hz359.at hin360 (by rw [hk, (own_in17 kk hkk).2.2]; exact hget)
  have c361 := c39.wr W41
  have c362 := c361.wr W55
  have c363 := c362.wr W71
  have c364 := c363.wr W89
  have c365 := c364.wr W109
  have c366 := c365.wr W131
  have c367 := c366.wr W155
  have c368 := c367.wr W181
  have c369 := c368.wr W209
  have c370 := c369.wr W239
  have c371 := c370.wr W271
  have c372 := c371.wr W305
  have c373 := c372.wr W341
  have c374 := c53.wr W55
  have c375 := c374.wr W71
  have c376 := c375.wr W89
  have c377 := c376.wr W109
  have c378 := c377.wr W131
  have c379 := c378.wr W155
  have c380 := c379.wr W181
  have c381 := c380.wr W209
  have c382 := c381.wr W239
  have c383 := c382.wr W271
  have c384 := c383.wr W305
  have c385 := c384.wr W341
  have c386 := c69.wr W71
  have c387 := c386.wr W89
  have c388 := c387.wr W109
  have c389 := c388.wr W131
  have c390 := c389.wr W155
  have c391 := c390.wr W181
  have c392 := c391.wr W209
  have c393 := c392.wr W239
  have c394 := c393.wr W271
  have c395 := c394.wr W305
  have c396 := c395.wr W341
  have c398 := ExA.ext E1
  have c399 := c398.wr W5
  have c400 := c399.wr W11
  have c401 := c400.wr W19
  have c402 := c401.wr W29
  have c403 := c402.wr W41
  have c404 := c403.wr W55
  have c405 := c404.wr W71
  have c406 := c405.wr W89
  have c407 := c406.wr W109
  have c408 := c407.wr W131
  have c409 := c408.wr W155
  have c410 := c409.wr W181
  have c411 := c410.wr W209
  have c412 := c411.wr W239
  have c413 := c412.wr W271
  have c414 := c413.wr W305
  have c415 := c414.wr W341
  obtain ⟨cq397, kq397, q397a, q397b, q397c⟩ := isOf hZ e341 c415
  obtain ⟨_, _, ⟨T397, L397, k397, n397⟩, -, X397, ⟨Lc397, hQ397, l397, y397, z397⟩, st397⟩ := X341.virtualBack hx (y := nm_1) (z := nm_1) hown (mvT hZ (ow hw 39 rfl)) (mvT hZ (ow hw 40 rfl)) (notFace_of_selects (args := #[]) (mvT hZ (ow hw 42 rfl))) (mvT hZ (ow hw 42 rfl)) (mvT hZ (ow hw 41 rfl)) (by decide) (backOf (W := 0) (rm1 l Z a0 hw [] a ad4 ad5 ad6 h341 n0 (Nat.le_trans (Nat.le_trans (Nat.le_trans (Nat.le_trans (Nat.le_trans (Nat.le_trans (Nat.le_trans (Nat.le_trans (Nat.le_trans (Nat.le_trans (Nat.le_trans (Nat.le_trans (Nat.le_trans (Nat.le_trans (Nat.le_trans (Nat.le_trans (Nat.le_trans (Nat.le_trans Z0 E1.1) (Keep.of_wr W5).1) (Keep.of_wr W11).1) (Keep.of_wr W19).1) (Keep.of_wr W29).1) (Keep.of_wr W41).1) (Keep.of_wr W55).1) (Keep.of_wr W71).1) (Keep.of_wr W89).1) (Keep.of_wr W109).1) (Keep.of_wr W131).1) (Keep.of_wr W155).1) (Keep.of_wr W181).1) (Keep.of_wr W209).1) (Keep.of_wr W239).1) (Keep.of_wr W271).1) (Keep.of_wr W305).1) (Keep.of_wr W341).1) c373 c385 c396) hZ (ow hw 43 rfl) (ow hw 3 rfl) (by decide) (by decide)) q397a q397c (g := (mkF m 155 #[.val (.int p1), .val (.ref b1), .val (.int ((p1 &&& (2147483647 : Int32)) % (17 : Int32))), .val (.ref a), .val (.int (0 : Int32))] [(.ref a)])) rfl (by rw [hml]; rfl) (Steps.refl _) (argsL := []) (rest := []) (lenOf pd_0 rfl) rfl (by show 2 * 0 + _ ≤ _; exact Nat.le_of_eq rfl) (hb hby at_155) (fun _ _ => ⟨rfl, e341, (by decide : 1 + 0 ≤ _), (by decide : 17 + 0 ≤ _)⟩)
  dsimp only [Pt.U, Pt.locs, Pt.cells, Pt.slots] at X397 l397 y397 z397 st397 hQ397
  subst l397 y397 z397
  obtain ⟨rfl, N397q, e397⟩ := hQ397
  have N397 := Fr.app N341 N397q
  obtain ⟨fs, hr, hrun, hended, hW, hsame⟩ := X397.leave (v := some (.int (1 : Int32))) (fun h => by rw [Bd.returns] at h; cases h)
  refine ⟨_, _, pre0 _ ?_, hrun, hended, _, _, rfl, ?_, ⟨_, rfl⟩, hW, hsame.mono (by decide) (by decide)⟩
  · show Steps p.tables e below (s₁.setTop (mkF m 0 #[.val (.int p1), .unset, .unset, .unset, .unset] [])) _
    refine XS.bipush X0.here hx rfl (hb hby at_0) ?_
    show Steps p.tables e below (s₁.setTop (mkF m 2 #[.val (.int p1), .unset, .unset, .unset, .unset] [(.int (17 : Int32))])) _
    refine st1 _ ?_
    show Steps p.tables e below (T1.setTop (mkF m 5 #[.val (.int p1), .unset, .unset, .unset, .unset] [(.ref b1)])) _
    refine XS.dup X1.here hx rfl (hb hby at_5) rfl rfl ?_
    show Steps p.tables e below (T1.setTop (mkF m 6 #[.val (.int p1), .unset, .unset, .unset, .unset] [(.ref b1), (.ref b1)])) _
    refine XS.iconst X1.here hx rfl (hb hby at_6) ?_
    show Steps p.tables e below (T1.setTop (mkF m 7 #[.val (.int p1), .unset, .unset, .unset, .unset] [(.int (0 : Int32)), (.ref b1), (.ref b1)])) _
    refine st2 _ ?_
    show Steps p.tables e below (T2.setTop (mkF m 10 #[.val (.int p1), .unset, .unset, .unset, .unset] [(.ref ad0), (.int (0 : Int32)), (.ref b1), (.ref b1)])) _
    refine st5 _ ?_
    show Steps p.tables e below (T5.setTop (mkF m 11 #[.val (.int p1), .unset, .unset, .unset, .unset] [(.ref b1)])) _
    refine XS.dup X5.here hx rfl (hb hby at_11) rfl rfl ?_
    show Steps p.tables e below (T5.setTop (mkF m 12 #[.val (.int p1), .unset, .unset, .unset, .unset] [(.ref b1), (.ref b1)])) _
    refine XS.iconst X5.here hx rfl (hb hby at_12) ?_
    show Steps p.tables e below (T5.setTop (mkF m 13 #[.val (.int p1), .unset, .unset, .unset, .unset] [(.int (1 : Int32)), (.ref b1), (.ref b1)])) _
    refine st7 _ ?_
    show Steps p.tables e below (T7.setTop (mkF m 16 #[.val (.int p1), .unset, .unset, .unset, .unset] [(.ref ad1), (.int (1 : Int32)), (.ref b1), (.ref b1)])) _
    refine st11 _ ?_
    show Steps p.tables e below (T11.setTop (mkF m 17 #[.val (.int p1), .unset, .unset, .unset, .unset] [(.ref b1)])) _
    refine XS.dup X11.here hx rfl (hb hby at_17) rfl rfl ?_
    show Steps p.tables e below (T11.setTop (mkF m 18 #[.val (.int p1), .unset, .unset, .unset, .unset] [(.ref b1), (.ref b1)])) _
    refine XS.iconst X11.here hx rfl (hb hby at_18) ?_
    show Steps p.tables e below (T11.setTop (mkF m 19 #[.val (.int p1), .unset, .unset, .unset, .unset] [(.int (2 : Int32)), (.ref b1), (.ref b1)])) _
    refine st14 _ ?_
    show Steps p.tables e below (T14.setTop (mkF m 22 #[.val (.int p1), .unset, .unset, .unset, .unset] [(.ref ad2), (.int (2 : Int32)), (.ref b1), (.ref b1)])) _
    refine st19 _ ?_
    show Steps p.tables e below (T19.setTop (mkF m 23 #[.val (.int p1), .unset, .unset, .unset, .unset] [(.ref b1)])) _
    refine XS.dup X19.here hx rfl (hb hby at_23) rfl rfl ?_
    show Steps p.tables e below (T19.setTop (mkF m 24 #[.val (.int p1), .unset, .unset, .unset, .unset] [(.ref b1), (.ref b1)])) _
    refine XS.iconst X19.here hx rfl (hb hby at_24) ?_
    show Steps p.tables e below (T19.setTop (mkF m 25 #[.val (.int p1), .unset, .unset, .unset, .unset] [(.int (3 : Int32)), (.ref b1), (.ref b1)])) _
    refine st23 _ ?_
    show Steps p.tables e below (T23.setTop (mkF m 28 #[.val (.int p1), .unset, .unset, .unset, .unset] [(.ref ad3), (.int (3 : Int32)), (.ref b1), (.ref b1)])) _
    refine st29 _ ?_
    show Steps p.tables e below (T29.setTop (mkF m 29 #[.val (.int p1), .unset, .unset, .unset, .unset] [(.ref b1)])) _
    refine XS.dup X29.here hx rfl (hb hby at_29) rfl rfl ?_
    show Steps p.tables e below (T29.setTop (mkF m 30 #[.val (.int p1), .unset, .unset, .unset, .unset] [(.ref b1), (.ref b1)])) _
    refine XS.iconst X29.here hx rfl (hb hby at_30) ?_
    show Steps p.tables e below (T29.setTop (mkF m 31 #[.val (.int p1), .unset, .unset, .unset, .unset] [(.int (4 : Int32)), (.ref b1), (.ref b1)])) _
    refine st34 _ ?_
    show Steps p.tables e below (T34.setTop (mkF m 34 #[.val (.int p1), .unset, .unset, .unset, .unset] [(.ref ad4), (.int (4 : Int32)), (.ref b1), (.ref b1)])) _
    refine st41 _ ?_
    show Steps p.tables e below (T41.setTop (mkF m 35 #[.val (.int p1), .unset, .unset, .unset, .unset] [(.ref b1)])) _
    refine XS.dup X41.here hx rfl (hb hby at_35) rfl rfl ?_
    show Steps p.tables e below (T41.setTop (mkF m 36 #[.val (.int p1), .unset, .unset, .unset, .unset] [(.ref b1), (.ref b1)])) _
    refine XS.iconst X41.here hx rfl (hb hby at_36) ?_
    show Steps p.tables e below (T41.setTop (mkF m 37 #[.val (.int p1), .unset, .unset, .unset, .unset] [(.int (5 : Int32)), (.ref b1), (.ref b1)])) _
    refine st47 _ ?_
    show Steps p.tables e below (T47.setTop (mkF m 40 #[.val (.int p1), .unset, .unset, .unset, .unset] [(.ref ad5), (.int (5 : Int32)), (.ref b1), (.ref b1)])) _
    refine st55 _ ?_
    show Steps p.tables e below (T55.setTop (mkF m 41 #[.val (.int p1), .unset, .unset, .unset, .unset] [(.ref b1)])) _
    refine XS.dup X55.here hx rfl (hb hby at_41) rfl rfl ?_
    show Steps p.tables e below (T55.setTop (mkF m 42 #[.val (.int p1), .unset, .unset, .unset, .unset] [(.ref b1), (.ref b1)])) _
    refine XS.bipush X55.here hx rfl (hb hby at_42) ?_
    show Steps p.tables e below (T55.setTop (mkF m 44 #[.val (.int p1), .unset, .unset, .unset, .unset] [(.int (6 : Int32)), (.ref b1), (.ref b1)])) _
    refine st62 _ ?_
    show Steps p.tables e below (T62.setTop (mkF m 47 #[.val (.int p1), .unset, .unset, .unset, .unset] [(.ref ad6), (.int (6 : Int32)), (.ref b1), (.ref b1)])) _
    refine st71 _ ?_
    show Steps p.tables e below (T71.setTop (mkF m 48 #[.val (.int p1), .unset, .unset, .unset, .unset] [(.ref b1)])) _
    refine XS.dup X71.here hx rfl (hb hby at_48) rfl rfl ?_
    show Steps p.tables e below (T71.setTop (mkF m 49 #[.val (.int p1), .unset, .unset, .unset, .unset] [(.ref b1), (.ref b1)])) _
    refine XS.bipush X71.here hx rfl (hb hby at_49) ?_
    show Steps p.tables e below (T71.setTop (mkF m 51 #[.val (.int p1), .unset, .unset, .unset, .unset] [(.int (7 : Int32)), (.ref b1), (.ref b1)])) _
    refine st79 _ ?_
    show Steps p.tables e below (T79.setTop (mkF m 54 #[.val (.int p1), .unset, .unset, .unset, .unset] [(.ref ad7), (.int (7 : Int32)), (.ref b1), (.ref b1)])) _
    refine st89 _ ?_
    show Steps p.tables e below (T89.setTop (mkF m 55 #[.val (.int p1), .unset, .unset, .unset, .unset] [(.ref b1)])) _
    refine XS.dup X89.here hx rfl (hb hby at_55) rfl rfl ?_
    show Steps p.tables e below (T89.setTop (mkF m 56 #[.val (.int p1), .unset, .unset, .unset, .unset] [(.ref b1), (.ref b1)])) _
    refine XS.bipush X89.here hx rfl (hb hby at_56) ?_
    show Steps p.tables e below (T89.setTop (mkF m 58 #[.val (.int p1), .unset, .unset, .unset, .unset] [(.int (8 : Int32)), (.ref b1), (.ref b1)])) _
    refine st98 _ ?_
    show Steps p.tables e below (T98.setTop (mkF m 61 #[.val (.int p1), .unset, .unset, .unset, .unset] [(.ref ad8), (.int (8 : Int32)), (.ref b1), (.ref b1)])) _
    refine st109 _ ?_
    show Steps p.tables e below (T109.setTop (mkF m 62 #[.val (.int p1), .unset, .unset, .unset, .unset] [(.ref b1)])) _
    refine XS.dup X109.here hx rfl (hb hby at_62) rfl rfl ?_
    show Steps p.tables e below (T109.setTop (mkF m 63 #[.val (.int p1), .unset, .unset, .unset, .unset] [(.ref b1), (.ref b1)])) _
    refine XS.bipush X109.here hx rfl (hb hby at_63) ?_
    show Steps p.tables e below (T109.setTop (mkF m 65 #[.val (.int p1), .unset, .unset, .unset, .unset] [(.int (9 : Int32)), (.ref b1), (.ref b1)])) _
    refine st119 _ ?_
    show Steps p.tables e below (T119.setTop (mkF m 68 #[.val (.int p1), .unset, .unset, .unset, .unset] [(.ref ad9), (.int (9 : Int32)), (.ref b1), (.ref b1)])) _
    refine st131 _ ?_
    show Steps p.tables e below (T131.setTop (mkF m 69 #[.val (.int p1), .unset, .unset, .unset, .unset] [(.ref b1)])) _
    refine XS.dup X131.here hx rfl (hb hby at_69) rfl rfl ?_
    show Steps p.tables e below (T131.setTop (mkF m 70 #[.val (.int p1), .unset, .unset, .unset, .unset] [(.ref b1), (.ref b1)])) _
    refine XS.bipush X131.here hx rfl (hb hby at_70) ?_
    show Steps p.tables e below (T131.setTop (mkF m 72 #[.val (.int p1), .unset, .unset, .unset, .unset] [(.int (10 : Int32)), (.ref b1), (.ref b1)])) _
    refine st142 _ ?_
    show Steps p.tables e below (T142.setTop (mkF m 75 #[.val (.int p1), .unset, .unset, .unset, .unset] [(.ref ad10), (.int (10 : Int32)), (.ref b1), (.ref b1)])) _
    refine st155 _ ?_
    show Steps p.tables e below (T155.setTop (mkF m 76 #[.val (.int p1), .unset, .unset, .unset, .unset] [(.ref b1)])) _
    refine XS.dup X155.here hx rfl (hb hby at_76) rfl rfl ?_
    show Steps p.tables e below (T155.setTop (mkF m 77 #[.val (.int p1), .unset, .unset, .unset, .unset] [(.ref b1), (.ref b1)])) _
    refine XS.bipush X155.here hx rfl (hb hby at_77) ?_
    show Steps p.tables e below (T155.setTop (mkF m 79 #[.val (.int p1), .unset, .unset, .unset, .unset] [(.int (11 : Int32)), (.ref b1), (.ref b1)])) _
    refine st167 _ ?_
    show Steps p.tables e below (T167.setTop (mkF m 82 #[.val (.int p1), .unset, .unset, .unset, .unset] [(.ref ad11), (.int (11 : Int32)), (.ref b1), (.ref b1)])) _
    refine st181 _ ?_
    show Steps p.tables e below (T181.setTop (mkF m 83 #[.val (.int p1), .unset, .unset, .unset, .unset] [(.ref b1)])) _
    refine XS.dup X181.here hx rfl (hb hby at_83) rfl rfl ?_
    show Steps p.tables e below (T181.setTop (mkF m 84 #[.val (.int p1), .unset, .unset, .unset, .unset] [(.ref b1), (.ref b1)])) _
    refine XS.bipush X181.here hx rfl (hb hby at_84) ?_
    show Steps p.tables e below (T181.setTop (mkF m 86 #[.val (.int p1), .unset, .unset, .unset, .unset] [(.int (12 : Int32)), (.ref b1), (.ref b1)])) _
    refine st194 _ ?_
    show Steps p.tables e below (T194.setTop (mkF m 89 #[.val (.int p1), .unset, .unset, .unset, .unset] [(.ref ad12), (.int (12 : Int32)), (.ref b1), (.ref b1)])) _
    refine st209 _ ?_
    show Steps p.tables e below (T209.setTop (mkF m 90 #[.val (.int p1), .unset, .unset, .unset, .unset] [(.ref b1)])) _
    refine XS.dup X209.here hx rfl (hb hby at_90) rfl rfl ?_
    show Steps p.tables e below (T209.setTop (mkF m 91 #[.val (.int p1), .unset, .unset, .unset, .unset] [(.ref b1), (.ref b1)])) _
    refine XS.bipush X209.here hx rfl (hb hby at_91) ?_
    show Steps p.tables e below (T209.setTop (mkF m 93 #[.val (.int p1), .unset, .unset, .unset, .unset] [(.int (13 : Int32)), (.ref b1), (.ref b1)])) _
    refine st223 _ ?_
    show Steps p.tables e below (T223.setTop (mkF m 96 #[.val (.int p1), .unset, .unset, .unset, .unset] [(.ref ad13), (.int (13 : Int32)), (.ref b1), (.ref b1)])) _
    refine st239 _ ?_
    show Steps p.tables e below (T239.setTop (mkF m 97 #[.val (.int p1), .unset, .unset, .unset, .unset] [(.ref b1)])) _
    refine XS.dup X239.here hx rfl (hb hby at_97) rfl rfl ?_
    show Steps p.tables e below (T239.setTop (mkF m 98 #[.val (.int p1), .unset, .unset, .unset, .unset] [(.ref b1), (.ref b1)])) _
    refine XS.bipush X239.here hx rfl (hb hby at_98) ?_
    show Steps p.tables e below (T239.setTop (mkF m 100 #[.val (.int p1), .unset, .unset, .unset, .unset] [(.int (14 : Int32)), (.ref b1), (.ref b1)])) _
    refine st254 _ ?_
    show Steps p.tables e below (T254.setTop (mkF m 103 #[.val (.int p1), .unset, .unset, .unset, .unset] [(.ref ad14), (.int (14 : Int32)), (.ref b1), (.ref b1)])) _
    refine st271 _ ?_
    show Steps p.tables e below (T271.setTop (mkF m 104 #[.val (.int p1), .unset, .unset, .unset, .unset] [(.ref b1)])) _
    refine XS.dup X271.here hx rfl (hb hby at_104) rfl rfl ?_
    show Steps p.tables e below (T271.setTop (mkF m 105 #[.val (.int p1), .unset, .unset, .unset, .unset] [(.ref b1), (.ref b1)])) _
    refine XS.bipush X271.here hx rfl (hb hby at_105) ?_
    show Steps p.tables e below (T271.setTop (mkF m 107 #[.val (.int p1), .unset, .unset, .unset, .unset] [(.int (15 : Int32)), (.ref b1), (.ref b1)])) _
    refine st287 _ ?_
    show Steps p.tables e below (T287.setTop (mkF m 110 #[.val (.int p1), .unset, .unset, .unset, .unset] [(.ref ad15), (.int (15 : Int32)), (.ref b1), (.ref b1)])) _
    refine st305 _ ?_
    show Steps p.tables e below (T305.setTop (mkF m 111 #[.val (.int p1), .unset, .unset, .unset, .unset] [(.ref b1)])) _
    refine XS.dup X305.here hx rfl (hb hby at_111) rfl rfl ?_
    show Steps p.tables e below (T305.setTop (mkF m 112 #[.val (.int p1), .unset, .unset, .unset, .unset] [(.ref b1), (.ref b1)])) _
    refine XS.bipush X305.here hx rfl (hb hby at_112) ?_
    show Steps p.tables e below (T305.setTop (mkF m 114 #[.val (.int p1), .unset, .unset, .unset, .unset] [(.int (16 : Int32)), (.ref b1), (.ref b1)])) _
    refine st322 _ ?_
    show Steps p.tables e below (T322.setTop (mkF m 117 #[.val (.int p1), .unset, .unset, .unset, .unset] [(.ref ad16), (.int (16 : Int32)), (.ref b1), (.ref b1)])) _
    refine st341 _ ?_
    show Steps p.tables e below (T341.setTop (mkF m 118 #[.val (.int p1), .unset, .unset, .unset, .unset] [(.ref b1)])) _
    refine XS.astoreN X341.here hx rfl (hb hby at_118) rfl rfl (l' := #[.val (.int p1), .val (.ref b1), .unset, .unset, .unset]) rfl ?_
    show Steps p.tables e below (T341.setTop (mkF m 119 #[.val (.int p1), .val (.ref b1), .unset, .unset, .unset] [])) _
    refine XS.iloadN X341.here hx rfl (hb hby at_119) rfl ?_
    show Steps p.tables e below (T341.setTop (mkF m 120 #[.val (.int p1), .val (.ref b1), .unset, .unset, .unset] [(.int p1)])) _
    refine X341.ldcInt hx hown (mvT hZ (ow hw 38 rfl)) (g := (mkF m 120 #[.val (.int p1), .val (.ref b1), .unset, .unset, .unset] [(.int p1)])) rfl (hb hby at_120) _ ?_
    show Steps p.tables e below (T341.setTop (mkF m 122 #[.val (.int p1), .val (.ref b1), .unset, .unset, .unset] [(.int (2147483647 : Int32)), (.int p1)])) _
    refine XS.iand X341.here hx rfl (hb hby at_122) rfl ?_
    show Steps p.tables e below (T341.setTop (mkF m 123 #[.val (.int p1), .val (.ref b1), .unset, .unset, .unset] [(.int (p1 &&& (2147483647 : Int32)))])) _
    refine XS.bipush X341.here hx rfl (hb hby at_123) ?_
    show Steps p.tables e below (T341.setTop (mkF m 125 #[.val (.int p1), .val (.ref b1), .unset, .unset, .unset] [(.int (17 : Int32)), (.int (p1 &&& (2147483647 : Int32)))])) _
    refine iremM X341 hx (g := (mkF m 125 #[.val (.int p1), .val (.ref b1), .unset, .unset, .unset] [(.int (17 : Int32)), (.int (p1 &&& (2147483647 : Int32)))])) rfl (hb hby at_125) rfl (by decide) ?_
    show Steps p.tables e below (T341.setTop (mkF m 126 #[.val (.int p1), .val (.ref b1), .unset, .unset, .unset] [(.int ((p1 &&& (2147483647 : Int32)) % (17 : Int32)))])) _
    refine XS.istoreN X341.here hx rfl (hb hby at_126) rfl (l' := #[.val (.int p1), .val (.ref b1), .val (.int ((p1 &&& (2147483647 : Int32)) % (17 : Int32))), .unset, .unset]) rfl ?_
    show Steps p.tables e below (T341.setTop (mkF m 127 #[.val (.int p1), .val (.ref b1), .val (.int ((p1 &&& (2147483647 : Int32)) % (17 : Int32))), .unset, .unset] [])) _
    refine XS.aloadN X341.here hx rfl (hb hby at_127) rfl rfl ?_
    show Steps p.tables e below (T341.setTop (mkF m 128 #[.val (.int p1), .val (.ref b1), .val (.int ((p1 &&& (2147483647 : Int32)) % (17 : Int32))), .unset, .unset] [(.ref b1)])) _
    refine XS.iloadN X341.here hx rfl (hb hby at_128) rfl ?_
    show Steps p.tables e below (T341.setTop (mkF m 129 #[.val (.int p1), .val (.ref b1), .val (.int ((p1 &&& (2147483647 : Int32)) % (17 : Int32))), .unset, .unset] [(.int ((p1 &&& (2147483647 : Int32)) % (17 : Int32))), (.ref b1)])) _
    refine X341.aaload hx (j := ((p1 &&& (2147483647 : Int32)) % (17 : Int32))) (v := (.ref a)) (by rw [e341]; exact Arz359.1) (State.isArrayOf_alike hZ.alike Arz359.2.1) rfl Arz359.2.2 hin360 hat360 (g := (mkF m 129 #[.val (.int p1), .val (.ref b1), .val (.int ((p1 &&& (2147483647 : Int32)) % (17 : Int32))), .unset, .unset] [(.int ((p1 &&& (2147483647 : Int32)) % (17 : Int32))), (.ref b1)])) rfl rfl (hb hby at_129) _ ?_
    show Steps p.tables e below (T341.setTop (mkF m 130 #[.val (.int p1), .val (.ref b1), .val (.int ((p1 &&& (2147483647 : Int32)) % (17 : Int32))), .unset, .unset] [(.ref a)])) _
    refine XS.astoreN X341.here hx rfl (hb hby at_130) rfl rfl (l' := #[.val (.int p1), .val (.ref b1), .val (.int ((p1 &&& (2147483647 : Int32)) % (17 : Int32))), .val (.ref a), .unset]) rfl ?_
    show Steps p.tables e below (T341.setTop (mkF m 131 #[.val (.int p1), .val (.ref b1), .val (.int ((p1 &&& (2147483647 : Int32)) % (17 : Int32))), .val (.ref a), .unset] [])) _
    refine XS.iloadN X341.here hx rfl (hb hby at_131) rfl ?_
    show Steps p.tables e below (T341.setTop (mkF m 132 #[.val (.int p1), .val (.ref b1), .val (.int ((p1 &&& (2147483647 : Int32)) % (17 : Int32))), .val (.ref a), .unset] [(.int ((p1 &&& (2147483647 : Int32)) % (17 : Int32)))])) _
    refine XS.iconst X341.here hx rfl (hb hby at_132) ?_
    show Steps p.tables e below (T341.setTop (mkF m 133 #[.val (.int p1), .val (.ref b1), .val (.int ((p1 &&& (2147483647 : Int32)) % (17 : Int32))), .val (.ref a), .unset] [(.int (4 : Int32)), (.int ((p1 &&& (2147483647 : Int32)) % (17 : Int32)))])) _
    refine XS.icmpNo X341.here hx rfl (hb hby at_133) rfl (feq hc133).1 ?_
    show Steps p.tables e below (T341.setTop (mkF m 136 #[.val (.int p1), .val (.ref b1), .val (.int ((p1 &&& (2147483647 : Int32)) % (17 : Int32))), .val (.ref a), .unset] [])) _
    refine XS.iloadN X341.here hx rfl (hb hby at_136) rfl ?_
    show Steps p.tables e below (T341.setTop (mkF m 137 #[.val (.int p1), .val (.ref b1), .val (.int ((p1 &&& (2147483647 : Int32)) % (17 : Int32))), .val (.ref a), .unset] [(.int ((p1 &&& (2147483647 : Int32)) % (17 : Int32)))])) _
    refine XS.iconst X341.here hx rfl (hb hby at_137) ?_
    show Steps p.tables e below (T341.setTop (mkF m 138 #[.val (.int p1), .val (.ref b1), .val (.int ((p1 &&& (2147483647 : Int32)) % (17 : Int32))), .val (.ref a), .unset] [(.int (5 : Int32)), (.int ((p1 &&& (2147483647 : Int32)) % (17 : Int32)))])) _
    refine XS.icmpNo X341.here hx rfl (hb hby at_138) rfl (feq hc138).1 ?_
    show Steps p.tables e below (T341.setTop (mkF m 141 #[.val (.int p1), .val (.ref b1), .val (.int ((p1 &&& (2147483647 : Int32)) % (17 : Int32))), .val (.ref a), .unset] [])) _
    refine XS.iloadN X341.here hx rfl (hb hby at_141) rfl ?_
    show Steps p.tables e below (T341.setTop (mkF m 142 #[.val (.int p1), .val (.ref b1), .val (.int ((p1 &&& (2147483647 : Int32)) % (17 : Int32))), .val (.ref a), .unset] [(.int ((p1 &&& (2147483647 : Int32)) % (17 : Int32)))])) _
    refine XS.bipush X341.here hx rfl (hb hby at_142) ?_
    show Steps p.tables e below (T341.setTop (mkF m 144 #[.val (.int p1), .val (.ref b1), .val (.int ((p1 &&& (2147483647 : Int32)) % (17 : Int32))), .val (.ref a), .unset] [(.int (6 : Int32)), (.int ((p1 &&& (2147483647 : Int32)) % (17 : Int32)))])) _
    refine XS.icmpYes X341.here hx rfl (pc0 := 144) (pc' := 151) rfl (hb hby at_144) rfl (feq hc144).2 (by decide) (by decide) ?_
    show Steps p.tables e below (T341.setTop (mkF m 151 #[.val (.int p1), .val (.ref b1), .val (.int ((p1 &&& (2147483647 : Int32)) % (17 : Int32))), .val (.ref a), .unset] [])) _
    refine XS.iconst X341.here hx rfl (hb hby at_151) ?_
    show Steps p.tables e below (T341.setTop (mkF m 152 #[.val (.int p1), .val (.ref b1), .val (.int ((p1 &&& (2147483647 : Int32)) % (17 : Int32))), .val (.ref a), .unset] [(.int (0 : Int32))])) _
    refine XS.istore X341.here hx rfl (hb hby at_152) rfl (l' := #[.val (.int p1), .val (.ref b1), .val (.int ((p1 &&& (2147483647 : Int32)) % (17 : Int32))), .val (.ref a), .val (.int (0 : Int32))]) rfl ?_
    show Steps p.tables e below (T341.setTop (mkF m 154 #[.val (.int p1), .val (.ref b1), .val (.int ((p1 &&& (2147483647 : Int32)) % (17 : Int32))), .val (.ref a), .val (.int (0 : Int32))] [])) _
    refine XS.aloadN X341.here hx rfl (hb hby at_154) rfl rfl ?_
    show Steps p.tables e below (T341.setTop (mkF m 155 #[.val (.int p1), .val (.ref b1), .val (.int ((p1 &&& (2147483647 : Int32)) % (17 : Int32))), .val (.ref a), .val (.int (0 : Int32))] [(.ref a)])) _
    refine st397.trans ?_
    show Steps p.tables e below (T397.setTop (mkF m 158 #[.val (.int p1), .val (.ref b1), .val (.int ((p1 &&& (2147483647 : Int32)) % (17 : Int32))), .val (.ref a), .val (.int (0 : Int32))] [(.int (if a = ad4 ∨ a = ad5 ∨ a = ad6 then (1 : Int32) else 0))])) _
    refine XS.iload X397.here hx rfl (hb hby at_158) rfl ?_
    show Steps p.tables e below (T397.setTop (mkF m 160 #[.val (.int p1), .val (.ref b1), .val (.int ((p1 &&& (2147483647 : Int32)) % (17 : Int32))), .val (.ref a), .val (.int (0 : Int32))] [(.int (0 : Int32)), (.int (if a = ad4 ∨ a = ad5 ∨ a = ad6 then (1 : Int32) else 0))])) _
    refine XS.icmpNo X397.here hx rfl (hb hby at_160) rfl (teq hc160).2 ?_
    show Steps p.tables e below (T397.setTop (mkF m 163 #[.val (.int p1), .val (.ref b1), .val (.int ((p1 &&& (2147483647 : Int32)) % (17 : Int32))), .val (.ref a), .val (.int (0 : Int32))] [])) _
    refine XS.iconst X397.here hx rfl (hb hby at_163) ?_
    show Steps p.tables e below (T397.setTop (mkF m 164 #[.val (.int p1), .val (.ref b1), .val (.int ((p1 &&& (2147483647 : Int32)) % (17 : Int32))), .val (.ref a), .val (.int (0 : Int32))] [(.int (1 : Int32))])) _
    refine XS.goto X397.here hx rfl (pc0 := 164) (pc' := 168) rfl (hb hby at_164) (by decide) (by decide) ?_
    show Steps p.tables e below (T397.setTop (mkF m 168 #[.val (.int p1), .val (.ref b1), .val (.int ((p1 &&& (2147483647 : Int32)) % (17 : Int32))), .val (.ref a), .val (.int (0 : Int32))] [(.int (1 : Int32))])) _
    exact retN X397 hx (t := .boolean) Bd.returns (by simp) (hb hby at_168) hr
  · show QF (some (.int (1 : Int32))) h0 n0 _ T397.heap _
    rw [e397]
    exact ⟨rfl, N397⟩
set_option maxRecDepth 65536 in
set_option maxHeartbeats 40000000 in
theorem comes_1 {Post : Tables → Env → Array Value → State → Outcome → State → Prop} (hpost : ∀ tb e args s v u, (limb_1_1.after args s (.returned v) u = true ∧ limb_1_2.after args s (.returned v) u = true ∧ True) → FrameEnd s (.returned v) u (Jvm.fieldLocs frame_1_writes args s ++ Jvm.arrayLocs frame_1_arrays args s ++ Jvm.staticLocs frame_1_statics s) 16 128 → Post tb e args s (.returned v) u) :
    ArmFor flags0 classFile x code maxLocals ret World_1 tables_1 room_1 Calls_1 rest_1 Pre_1 Post := by
  intro l hfl _ _ p e ha hc hk s m args below hf hA hF happ hP
  obtain ⟨hcalls, hrest, hpre⟩ := hP
  obtain ⟨-, -, -, hnamed, -, -, -, hat⟩ := (Spec.applies_iff hf).mp happ
  obtain ⟨hg, hn⟩ := and_e (Cond.before_iff.mp (show (Jvm.Cond.and given_1 narrow_1).before args s = true from hpre))
  obtain ⟨hcount, hk0⟩ := and_e hg
  have ha0 := hk0
  obtain ⟨w0, rfl⟩ : ∃ w0 : Value, args = #[w0] := by
    have hs : args.size = 1 := by simpa [Cond.value, given_1] using hcount
    obtain ⟨L⟩ := args
    match L, hs with
    | [w0], _ => exact ⟨w0, rfl⟩
  obtain ⟨i0, ei0⟩ := is_v ha0
  obtain rfl : w0 = (.int i0) := Option.some.inj ei0
  have hw := fun d (hd : d ∈ tables_1) => atoms_spec (ws := Jvm.Cond.code x code maxLocals ret :: tables_1) hat d (List.mem_cons_of_mem _ hd)
  obtain ⟨hn_0, hm_0⟩ := and_e hn
  obtain ⟨A_DataType_STRING, ev_DataType_STRING⟩ := exa_v hn_0
  have E_DataType_STRING := Exa.start ev_DataType_STRING hn_0
  have S_DataType_STRING := Sta.start ev_DataType_STRING (Or.inr ⟨(hw _ (List.mem_of_getElem? (i := 3) rfl)), (hw _ (List.mem_of_getElem? (i := 4) rfl))⟩)
  obtain ⟨hn_1, hm_1⟩ := and_e hm_0
  obtain ⟨A_DataType_BOOLEAN, ev_DataType_BOOLEAN⟩ := exa_v hn_1
  have E_DataType_BOOLEAN := Exa.start ev_DataType_BOOLEAN hn_1
  have S_DataType_BOOLEAN := Sta.start ev_DataType_BOOLEAN (Or.inr ⟨(hw _ (List.mem_of_getElem? (i := 3) rfl)), (hw _ (List.mem_of_getElem? (i := 7) rfl))⟩)
  obtain ⟨hn_2, hm_2⟩ := and_e hm_1
  obtain ⟨A_DataType_INTEGER, ev_DataType_INTEGER⟩ := exa_v hn_2
  have E_DataType_INTEGER := Exa.start ev_DataType_INTEGER hn_2
  have S_DataType_INTEGER := Sta.start ev_DataType_INTEGER (Or.inr ⟨(hw _ (List.mem_of_getElem? (i := 3) rfl)), (hw _ (List.mem_of_getElem? (i := 9) rfl))⟩)
  obtain ⟨hn_3, hm_3⟩ := and_e hm_2
  obtain ⟨A_DataType_DOUBLE, ev_DataType_DOUBLE⟩ := exa_v hn_3
  have E_DataType_DOUBLE := Exa.start ev_DataType_DOUBLE hn_3
  have S_DataType_DOUBLE := Sta.start ev_DataType_DOUBLE (Or.inr ⟨(hw _ (List.mem_of_getElem? (i := 3) rfl)), (hw _ (List.mem_of_getElem? (i := 11) rfl))⟩)
  obtain ⟨hn_4, hm_4⟩ := and_e hm_3
  obtain ⟨A_DataType_TIME, ev_DataType_TIME⟩ := exa_v hn_4
  have E_DataType_TIME := Exa.start ev_DataType_TIME hn_4
  have S_DataType_TIME := Sta.start ev_DataType_TIME (Or.inr ⟨(hw _ (List.mem_of_getElem? (i := 3) rfl)), (hw _ (List.mem_of_getElem? (i := 13) rfl))⟩)
  obtain ⟨hn_5, hm_5⟩ := and_e hm_4
  obtain ⟨A_DataType_DATE, ev_DataType_DATE⟩ := exa_v hn_5
  have E_DataType_DATE := Exa.start ev_DataType_DATE hn_5
  have S_DataType_DATE := Sta.start ev_DataType_DATE (Or.inr ⟨(hw _ (List.mem_of_getElem? (i := 3) rfl)), (hw _ (List.mem_of_getElem? (i := 15) rfl))⟩)
  obtain ⟨hn_6, hm_6⟩ := and_e hm_5
  obtain ⟨A_DataType_DATE_TIME, ev_DataType_DATE_TIME⟩ := exa_v hn_6
  have E_DataType_DATE_TIME := Exa.start ev_DataType_DATE_TIME hn_6
  have S_DataType_DATE_TIME := Sta.start ev_DataType_DATE_TIME (Or.inr ⟨(hw _ (List.mem_of_getElem? (i := 3) rfl)), (hw _ (List.mem_of_getElem? (i := 17) rfl))⟩)
  obtain ⟨hn_7, hm_7⟩ := and_e hm_6
  obtain ⟨A_DataType_ANY_URI, ev_DataType_ANY_URI⟩ := exa_v hn_7
  have E_DataType_ANY_URI := Exa.start ev_DataType_ANY_URI hn_7
  have S_DataType_ANY_URI := Sta.start ev_DataType_ANY_URI (Or.inr ⟨(hw _ (List.mem_of_getElem? (i := 3) rfl)), (hw _ (List.mem_of_getElem? (i := 19) rfl))⟩)
  obtain ⟨hn_8, hm_8⟩ := and_e hm_7
  obtain ⟨A_DataType_HEX_BINARY, ev_DataType_HEX_BINARY⟩ := exa_v hn_8
  have E_DataType_HEX_BINARY := Exa.start ev_DataType_HEX_BINARY hn_8
  have S_DataType_HEX_BINARY := Sta.start ev_DataType_HEX_BINARY (Or.inr ⟨(hw _ (List.mem_of_getElem? (i := 3) rfl)), (hw _ (List.mem_of_getElem? (i := 21) rfl))⟩)
  obtain ⟨hn_9, hm_9⟩ := and_e hm_8
  obtain ⟨A_DataType_BASE64_BINARY, ev_DataType_BASE64_BINARY⟩ := exa_v hn_9
  have E_DataType_BASE64_BINARY := Exa.start ev_DataType_BASE64_BINARY hn_9
  have S_DataType_BASE64_BINARY := Sta.start ev_DataType_BASE64_BINARY (Or.inr ⟨(hw _ (List.mem_of_getElem? (i := 3) rfl)), (hw _ (List.mem_of_getElem? (i := 23) rfl))⟩)
  obtain ⟨hn_10, hm_10⟩ := and_e hm_9
  obtain ⟨A_DataType_DAY_TIME_DURATION, ev_DataType_DAY_TIME_DURATION⟩ := exa_v hn_10
  have E_DataType_DAY_TIME_DURATION := Exa.start ev_DataType_DAY_TIME_DURATION hn_10
  have S_DataType_DAY_TIME_DURATION := Sta.start ev_DataType_DAY_TIME_DURATION (Or.inr ⟨(hw _ (List.mem_of_getElem? (i := 3) rfl)), (hw _ (List.mem_of_getElem? (i := 25) rfl))⟩)
  obtain ⟨hn_11, hm_11⟩ := and_e hm_10
  obtain ⟨A_DataType_YEAR_MONTH_DURATION, ev_DataType_YEAR_MONTH_DURATION⟩ := exa_v hn_11
  have E_DataType_YEAR_MONTH_DURATION := Exa.start ev_DataType_YEAR_MONTH_DURATION hn_11
  have S_DataType_YEAR_MONTH_DURATION := Sta.start ev_DataType_YEAR_MONTH_DURATION (Or.inr ⟨(hw _ (List.mem_of_getElem? (i := 3) rfl)), (hw _ (List.mem_of_getElem? (i := 27) rfl))⟩)
  obtain ⟨hn_12, hm_12⟩ := and_e hm_11
  obtain ⟨A_DataType_X500_NAME, ev_DataType_X500_NAME⟩ := exa_v hn_12
  have E_DataType_X500_NAME := Exa.start ev_DataType_X500_NAME hn_12
  have S_DataType_X500_NAME := Sta.start ev_DataType_X500_NAME (Or.inr ⟨(hw _ (List.mem_of_getElem? (i := 3) rfl)), (hw _ (List.mem_of_getElem? (i := 29) rfl))⟩)
  obtain ⟨hn_13, hm_13⟩ := and_e hm_12
  obtain ⟨A_DataType_RFC822_NAME, ev_DataType_RFC822_NAME⟩ := exa_v hn_13
  have E_DataType_RFC822_NAME := Exa.start ev_DataType_RFC822_NAME hn_13
  have S_DataType_RFC822_NAME := Sta.start ev_DataType_RFC822_NAME (Or.inr ⟨(hw _ (List.mem_of_getElem? (i := 3) rfl)), (hw _ (List.mem_of_getElem? (i := 31) rfl))⟩)
  obtain ⟨hn_14, hm_14⟩ := and_e hm_13
  obtain ⟨A_DataType_IP_ADDRESS, ev_DataType_IP_ADDRESS⟩ := exa_v hn_14
  have E_DataType_IP_ADDRESS := Exa.start ev_DataType_IP_ADDRESS hn_14
  have S_DataType_IP_ADDRESS := Sta.start ev_DataType_IP_ADDRESS (Or.inr ⟨(hw _ (List.mem_of_getElem? (i := 3) rfl)), (hw _ (List.mem_of_getElem? (i := 33) rfl))⟩)
  obtain ⟨hn_15, hm_15⟩ := and_e hm_14
  obtain ⟨A_DataType_DNS_NAME, ev_DataType_DNS_NAME⟩ := exa_v hn_15
  have E_DataType_DNS_NAME := Exa.start ev_DataType_DNS_NAME hn_15
  have S_DataType_DNS_NAME := Sta.start ev_DataType_DNS_NAME (Or.inr ⟨(hw _ (List.mem_of_getElem? (i := 3) rfl)), (hw _ (List.mem_of_getElem? (i := 35) rfl))⟩)
  obtain ⟨hn_16, hm_16⟩ := and_e hm_15
  obtain ⟨A_DataType_XPATH_EXPRESSION, ev_DataType_XPATH_EXPRESSION⟩ := exa_v hn_16
  have E_DataType_XPATH_EXPRESSION := Exa.start ev_DataType_XPATH_EXPRESSION hn_16
  have S_DataType_XPATH_EXPRESSION := Sta.start ev_DataType_XPATH_EXPRESSION (Or.inr ⟨(hw _ (List.mem_of_getElem? (i := 3) rfl)), (hw _ (List.mem_of_getElem? (i := 37) rfl))⟩)
  obtain ⟨hn_17, hm_17⟩ := and_e hm_16
  obtain ⟨hn_18, hm_18⟩ := and_e hm_17
  obtain ⟨hn_19, hm_19⟩ := and_e hm_18
  obtain ⟨hn_20, hm_20⟩ := and_e hm_19
  obtain ⟨hn_21, hm_21⟩ := and_e hm_20
  obtain ⟨hn_22, hm_22⟩ := and_e hm_21
  obtain ⟨hn_23, hm_23⟩ := and_e hm_22
  obtain ⟨hn_24, hm_24⟩ := and_e hm_23
  obtain ⟨hn_25, hm_25⟩ := and_e hm_24
  obtain ⟨hn_26, hm_26⟩ := and_e hm_25
  obtain ⟨hn_27, hm_27⟩ := and_e hm_26
  obtain ⟨hn_28, hm_28⟩ := and_e hm_27
  obtain ⟨hn_29, hm_29⟩ := and_e hm_28
  obtain ⟨hn_30, hm_30⟩ := and_e hm_29
  obtain ⟨hn_31, hm_31⟩ := and_e hm_30
  obtain ⟨hn_32, hm_32⟩ := and_e hm_31
  have F_DataType_STRING_ordinal := own_fldI ev_DataType_STRING hn_17
  have F_DataType_TIME_ordinal := own_fldI ev_DataType_TIME hn_18
  have F_DataType_DATE_ordinal := own_fldI ev_DataType_DATE hn_19
  have F_DataType_DATE_TIME_ordinal := own_fldI ev_DataType_DATE_TIME hn_20
  have F_DataType_DOUBLE_ordinal := own_fldI ev_DataType_DOUBLE hn_21
  have F_DataType_HEX_BINARY_ordinal := own_fldI ev_DataType_HEX_BINARY hn_22
  have F_DataType_BASE64_BINARY_ordinal := own_fldI ev_DataType_BASE64_BINARY hn_23
  have F_DataType_ANY_URI_ordinal := own_fldI ev_DataType_ANY_URI hn_24
  have F_DataType_INTEGER_ordinal := own_fldI ev_DataType_INTEGER hn_25
  have F_DataType_YEAR_MONTH_DURATION_ordinal := own_fldI ev_DataType_YEAR_MONTH_DURATION hn_26
  have F_DataType_BOOLEAN_ordinal := own_fldI ev_DataType_BOOLEAN hn_27
  have F_DataType_RFC822_NAME_ordinal := own_fldI ev_DataType_RFC822_NAME hn_28
  have F_DataType_DAY_TIME_DURATION_ordinal := own_fldI ev_DataType_DAY_TIME_DURATION hn_29
  have F_DataType_XPATH_EXPRESSION_ordinal := own_fldI ev_DataType_XPATH_EXPRESSION hn_30
  have F_DataType_DNS_NAME_ordinal := own_fldI ev_DataType_DNS_NAME hn_31
  have F_DataType_IP_ADDRESS_ordinal := own_fldI ev_DataType_IP_ADDRESS hn_32
  have F_DataType_X500_NAME_ordinal := own_fldI ev_DataType_X500_NAME hm_32
  have hmain : MetFree l x (head1 (Jvm.Cond.code x code maxLocals ret :: tables_1) room_1) (fun a U => a = #[(.int i0)] ∧ s.Warmed39 U.vm ∧ U.heap = s.heap) (fun _ _ _ _ _ => True) (fun _ U o U' => ∃ v L, o = .returned v ∧ QF (some (.int (1 : Int32))) s.heap s.heap.size v U'.heap L ∧ FrameEnd U o U' L room_1.cells room_1.slots) := by
    rcases own_mod17 i0 with q | q | q | q | q | q | q | q | q | q | q | q | q | q | q | q | q
    · exact rm0_fft l s _ hw tables_1 i0 0 A_DataType_STRING A_DataType_STRING A_DataType_BOOLEAN A_DataType_INTEGER A_DataType_DOUBLE A_DataType_TIME A_DataType_DATE A_DataType_DATE_TIME A_DataType_ANY_URI A_DataType_HEX_BINARY A_DataType_BASE64_BINARY A_DataType_DAY_TIME_DURATION A_DataType_YEAR_MONTH_DURATION A_DataType_X500_NAME A_DataType_RFC822_NAME A_DataType_IP_ADDRESS A_DataType_DNS_NAME A_DataType_XPATH_EXPRESSION s.heap s.heap.size (Nat.le_refl _) S_DataType_STRING S_DataType_BOOLEAN S_DataType_INTEGER S_DataType_DOUBLE S_DataType_TIME S_DataType_DATE S_DataType_DATE_TIME S_DataType_ANY_URI S_DataType_HEX_BINARY S_DataType_BASE64_BINARY S_DataType_DAY_TIME_DURATION S_DataType_YEAR_MONTH_DURATION S_DataType_X500_NAME S_DataType_RFC822_NAME S_DataType_IP_ADDRESS S_DataType_DNS_NAME S_DataType_XPATH_EXPRESSION E_DataType_STRING E_DataType_BOOLEAN E_DataType_INTEGER E_DataType_DOUBLE E_DataType_TIME E_DataType_DATE E_DataType_DATE_TIME E_DataType_ANY_URI E_DataType_HEX_BINARY E_DataType_BASE64_BINARY E_DataType_DAY_TIME_DURATION E_DataType_YEAR_MONTH_DURATION E_DataType_X500_NAME E_DataType_RFC822_NAME E_DataType_IP_ADDRESS E_DataType_DNS_NAME E_DataType_XPATH_EXPRESSION E_DataType_STRING (by decide) q rfl (by rw [q]; decide) (by rw [q]; decide) (by rw [q]; decide) (if_neg (fun z => z.elim (own_ne F_DataType_STRING_ordinal F_DataType_TIME_ordinal (by decide)) fun z => z.elim (own_ne F_DataType_STRING_ordinal F_DataType_DATE_ordinal (by decide)) (own_ne F_DataType_STRING_ordinal F_DataType_DATE_TIME_ordinal (by decide))))
    · exact rm0_fft l s _ hw tables_1 i0 1 A_DataType_BOOLEAN A_DataType_STRING A_DataType_BOOLEAN A_DataType_INTEGER A_DataType_DOUBLE A_DataType_TIME A_DataType_DATE A_DataType_DATE_TIME A_DataType_ANY_URI A_DataType_HEX_BINARY A_DataType_BASE64_BINARY A_DataType_DAY_TIME_DURATION A_DataType_YEAR_MONTH_DURATION A_DataType_X500_NAME A_DataType_RFC822_NAME A_DataType_IP_ADDRESS A_DataType_DNS_NAME A_DataType_XPATH_EXPRESSION s.heap s.heap.size (Nat.le_refl _) S_DataType_STRING S_DataType_BOOLEAN S_DataType_INTEGER S_DataType_DOUBLE S_DataType_TIME S_DataType_DATE S_DataType_DATE_TIME S_DataType_ANY_URI S_DataType_HEX_BINARY S_DataType_BASE64_BINARY S_DataType_DAY_TIME_DURATION S_DataType_YEAR_MONTH_DURATION S_DataType_X500_NAME S_DataType_RFC822_NAME S_DataType_IP_ADDRESS S_DataType_DNS_NAME S_DataType_XPATH_EXPRESSION E_DataType_STRING E_DataType_BOOLEAN E_DataType_INTEGER E_DataType_DOUBLE E_DataType_TIME E_DataType_DATE E_DataType_DATE_TIME E_DataType_ANY_URI E_DataType_HEX_BINARY E_DataType_BASE64_BINARY E_DataType_DAY_TIME_DURATION E_DataType_YEAR_MONTH_DURATION E_DataType_X500_NAME E_DataType_RFC822_NAME E_DataType_IP_ADDRESS E_DataType_DNS_NAME E_DataType_XPATH_EXPRESSION E_DataType_BOOLEAN (by decide) q rfl (by rw [q]; decide) (by rw [q]; decide) (by rw [q]; decide) (if_neg (fun z => z.elim (own_ne F_DataType_BOOLEAN_ordinal F_DataType_TIME_ordinal (by decide)) fun z => z.elim (own_ne F_DataType_BOOLEAN_ordinal F_DataType_DATE_ordinal (by decide)) (own_ne F_DataType_BOOLEAN_ordinal F_DataType_DATE_TIME_ordinal (by decide))))
    · exact rm0_fft l s _ hw tables_1 i0 2 A_DataType_INTEGER A_DataType_STRING A_DataType_BOOLEAN A_DataType_INTEGER A_DataType_DOUBLE A_DataType_TIME A_DataType_DATE A_DataType_DATE_TIME A_DataType_ANY_URI A_DataType_HEX_BINARY A_DataType_BASE64_BINARY A_DataType_DAY_TIME_DURATION A_DataType_YEAR_MONTH_DURATION A_DataType_X500_NAME A_DataType_RFC822_NAME A_DataType_IP_ADDRESS A_DataType_DNS_NAME A_DataType_XPATH_EXPRESSION s.heap s.heap.size (Nat.le_refl _) S_DataType_STRING S_DataType_BOOLEAN S_DataType_INTEGER S_DataType_DOUBLE S_DataType_TIME S_DataType_DATE S_DataType_DATE_TIME S_DataType_ANY_URI S_DataType_HEX_BINARY S_DataType_BASE64_BINARY S_DataType_DAY_TIME_DURATION S_DataType_YEAR_MONTH_DURATION S_DataType_X500_NAME S_DataType_RFC822_NAME S_DataType_IP_ADDRESS S_DataType_DNS_NAME S_DataType_XPATH_EXPRESSION E_DataType_STRING E_DataType_BOOLEAN E_DataType_INTEGER E_DataType_DOUBLE E_DataType_TIME E_DataType_DATE E_DataType_DATE_TIME E_DataType_ANY_URI E_DataType_HEX_BINARY E_DataType_BASE64_BINARY E_DataType_DAY_TIME_DURATION E_DataType_YEAR_MONTH_DURATION E_DataType_X500_NAME E_DataType_RFC822_NAME E_DataType_IP_ADDRESS E_DataType_DNS_NAME E_DataType_XPATH_EXPRESSION E_DataType_INTEGER (by decide) q rfl (by rw [q]; decide) (by rw [q]; decide) (by rw [q]; decide) (if_neg (fun z => z.elim (own_ne F_DataType_INTEGER_ordinal F_DataType_TIME_ordinal (by decide)) fun z => z.elim (own_ne F_DataType_INTEGER_ordinal F_DataType_DATE_ordinal (by decide)) (own_ne F_DataType_INTEGER_ordinal F_DataType_DATE_TIME_ordinal (by decide))))
    · exact rm0_fft l s _ hw tables_1 i0 3 A_DataType_DOUBLE A_DataType_STRING A_DataType_BOOLEAN A_DataType_INTEGER A_DataType_DOUBLE A_DataType_TIME A_DataType_DATE A_DataType_DATE_TIME A_DataType_ANY_URI A_DataType_HEX_BINARY A_DataType_BASE64_BINARY A_DataType_DAY_TIME_DURATION A_DataType_YEAR_MONTH_DURATION A_DataType_X500_NAME A_DataType_RFC822_NAME A_DataType_IP_ADDRESS A_DataType_DNS_NAME A_DataType_XPATH_EXPRESSION s.heap s.heap.size (Nat.le_refl _) S_DataType_STRING S_DataType_BOOLEAN S_DataType_INTEGER S_DataType_DOUBLE S_DataType_TIME S_DataType_DATE S_DataType_DATE_TIME S_DataType_ANY_URI S_DataType_HEX_BINARY S_DataType_BASE64_BINARY S_DataType_DAY_TIME_DURATION S_DataType_YEAR_MONTH_DURATION S_DataType_X500_NAME S_DataType_RFC822_NAME S_DataType_IP_ADDRESS S_DataType_DNS_NAME S_DataType_XPATH_EXPRESSION E_DataType_STRING E_DataType_BOOLEAN E_DataType_INTEGER E_DataType_DOUBLE E_DataType_TIME E_DataType_DATE E_DataType_DATE_TIME E_DataType_ANY_URI E_DataType_HEX_BINARY E_DataType_BASE64_BINARY E_DataType_DAY_TIME_DURATION E_DataType_YEAR_MONTH_DURATION E_DataType_X500_NAME E_DataType_RFC822_NAME E_DataType_IP_ADDRESS E_DataType_DNS_NAME E_DataType_XPATH_EXPRESSION E_DataType_DOUBLE (by decide) q rfl (by rw [q]; decide) (by rw [q]; decide) (by rw [q]; decide) (if_neg (fun z => z.elim (own_ne F_DataType_DOUBLE_ordinal F_DataType_TIME_ordinal (by decide)) fun z => z.elim (own_ne F_DataType_DOUBLE_ordinal F_DataType_DATE_ordinal (by decide)) (own_ne F_DataType_DOUBLE_ordinal F_DataType_DATE_TIME_ordinal (by decide))))
    · exact rm0_t l s _ hw tables_1 i0 4 A_DataType_TIME A_DataType_STRING A_DataType_BOOLEAN A_DataType_INTEGER A_DataType_DOUBLE A_DataType_TIME A_DataType_DATE A_DataType_DATE_TIME A_DataType_ANY_URI A_DataType_HEX_BINARY A_DataType_BASE64_BINARY A_DataType_DAY_TIME_DURATION A_DataType_YEAR_MONTH_DURATION A_DataType_X500_NAME A_DataType_RFC822_NAME A_DataType_IP_ADDRESS A_DataType_DNS_NAME A_DataType_XPATH_EXPRESSION s.heap s.heap.size (Nat.le_refl _) S_DataType_STRING S_DataType_BOOLEAN S_DataType_INTEGER S_DataType_DOUBLE S_DataType_TIME S_DataType_DATE S_DataType_DATE_TIME S_DataType_ANY_URI S_DataType_HEX_BINARY S_DataType_BASE64_BINARY S_DataType_DAY_TIME_DURATION S_DataType_YEAR_MONTH_DURATION S_DataType_X500_NAME S_DataType_RFC822_NAME S_DataType_IP_ADDRESS S_DataType_DNS_NAME S_DataType_XPATH_EXPRESSION E_DataType_STRING E_DataType_BOOLEAN E_DataType_INTEGER E_DataType_DOUBLE E_DataType_TIME E_DataType_DATE E_DataType_DATE_TIME E_DataType_ANY_URI E_DataType_HEX_BINARY E_DataType_BASE64_BINARY E_DataType_DAY_TIME_DURATION E_DataType_YEAR_MONTH_DURATION E_DataType_X500_NAME E_DataType_RFC822_NAME E_DataType_IP_ADDRESS E_DataType_DNS_NAME E_DataType_XPATH_EXPRESSION E_DataType_TIME (by decide) q rfl q (if_pos (Or.inl rfl))
    · exact rm0_ft l s _ hw tables_1 i0 5 A_DataType_DATE A_DataType_STRING A_DataType_BOOLEAN A_DataType_INTEGER A_DataType_DOUBLE A_DataType_TIME A_DataType_DATE A_DataType_DATE_TIME A_DataType_ANY_URI A_DataType_HEX_BINARY A_DataType_BASE64_BINARY A_DataType_DAY_TIME_DURATION A_DataType_YEAR_MONTH_DURATION A_DataType_X500_NAME A_DataType_RFC822_NAME A_DataType_IP_ADDRESS A_DataType_DNS_NAME A_DataType_XPATH_EXPRESSION s.heap s.heap.size (Nat.le_refl _) S_DataType_STRING S_DataType_BOOLEAN S_DataType_INTEGER S_DataType_DOUBLE S_DataType_TIME S_DataType_DATE S_DataType_DATE_TIME S_DataType_ANY_URI S_DataType_HEX_BINARY S_DataType_BASE64_BINARY S_DataType_DAY_TIME_DURATION S_DataType_YEAR_MONTH_DURATION S_DataType_X500_NAME S_DataType_RFC822_NAME S_DataType_IP_ADDRESS S_DataType_DNS_NAME S_DataType_XPATH_EXPRESSION E_DataType_STRING E_DataType_BOOLEAN E_DataType_INTEGER E_DataType_DOUBLE E_DataType_TIME E_DataType_DATE E_DataType_DATE_TIME E_DataType_ANY_URI E_DataType_HEX_BINARY E_DataType_BASE64_BINARY E_DataType_DAY_TIME_DURATION E_DataType_YEAR_MONTH_DURATION E_DataType_X500_NAME E_DataType_RFC822_NAME E_DataType_IP_ADDRESS E_DataType_DNS_NAME E_DataType_XPATH_EXPRESSION E_DataType_DATE (by decide) q rfl (by rw [q]; decide) q (if_pos (Or.inr (Or.inl rfl)))
    · exact rm0_fff l s _ hw tables_1 i0 6 A_DataType_DATE_TIME A_DataType_STRING A_DataType_BOOLEAN A_DataType_INTEGER A_DataType_DOUBLE A_DataType_TIME A_DataType_DATE A_DataType_DATE_TIME A_DataType_ANY_URI A_DataType_HEX_BINARY A_DataType_BASE64_BINARY A_DataType_DAY_TIME_DURATION A_DataType_YEAR_MONTH_DURATION A_DataType_X500_NAME A_DataType_RFC822_NAME A_DataType_IP_ADDRESS A_DataType_DNS_NAME A_DataType_XPATH_EXPRESSION s.heap s.heap.size (Nat.le_refl _) S_DataType_STRING S_DataType_BOOLEAN S_DataType_INTEGER S_DataType_DOUBLE S_DataType_TIME S_DataType_DATE S_DataType_DATE_TIME S_DataType_ANY_URI S_DataType_HEX_BINARY S_DataType_BASE64_BINARY S_DataType_DAY_TIME_DURATION S_DataType_YEAR_MONTH_DURATION S_DataType_X500_NAME S_DataType_RFC822_NAME S_DataType_IP_ADDRESS S_DataType_DNS_NAME S_DataType_XPATH_EXPRESSION E_DataType_STRING E_DataType_BOOLEAN E_DataType_INTEGER E_DataType_DOUBLE E_DataType_TIME E_DataType_DATE E_DataType_DATE_TIME E_DataType_ANY_URI E_DataType_HEX_BINARY E_DataType_BASE64_BINARY E_DataType_DAY_TIME_DURATION E_DataType_YEAR_MONTH_DURATION E_DataType_X500_NAME E_DataType_RFC822_NAME E_DataType_IP_ADDRESS E_DataType_DNS_NAME E_DataType_XPATH_EXPRESSION E_DataType_DATE_TIME (by decide) q rfl (by rw [q]; decide) (by rw [q]; decide) q (if_pos (Or.inr (Or.inr rfl)))
    · exact rm0_fft l s _ hw tables_1 i0 7 A_DataType_ANY_URI A_DataType_STRING A_DataType_BOOLEAN A_DataType_INTEGER A_DataType_DOUBLE A_DataType_TIME A_DataType_DATE A_DataType_DATE_TIME A_DataType_ANY_URI A_DataType_HEX_BINARY A_DataType_BASE64_BINARY A_DataType_DAY_TIME_DURATION A_DataType_YEAR_MONTH_DURATION A_DataType_X500_NAME A_DataType_RFC822_NAME A_DataType_IP_ADDRESS A_DataType_DNS_NAME A_DataType_XPATH_EXPRESSION s.heap s.heap.size (Nat.le_refl _) S_DataType_STRING S_DataType_BOOLEAN S_DataType_INTEGER S_DataType_DOUBLE S_DataType_TIME S_DataType_DATE S_DataType_DATE_TIME S_DataType_ANY_URI S_DataType_HEX_BINARY S_DataType_BASE64_BINARY S_DataType_DAY_TIME_DURATION S_DataType_YEAR_MONTH_DURATION S_DataType_X500_NAME S_DataType_RFC822_NAME S_DataType_IP_ADDRESS S_DataType_DNS_NAME S_DataType_XPATH_EXPRESSION E_DataType_STRING E_DataType_BOOLEAN E_DataType_INTEGER E_DataType_DOUBLE E_DataType_TIME E_DataType_DATE E_DataType_DATE_TIME E_DataType_ANY_URI E_DataType_HEX_BINARY E_DataType_BASE64_BINARY E_DataType_DAY_TIME_DURATION E_DataType_YEAR_MONTH_DURATION E_DataType_X500_NAME E_DataType_RFC822_NAME E_DataType_IP_ADDRESS E_DataType_DNS_NAME E_DataType_XPATH_EXPRESSION E_DataType_ANY_URI (by decide) q rfl (by rw [q]; decide) (by rw [q]; decide) (by rw [q]; decide) (if_neg (fun z => z.elim (own_ne F_DataType_ANY_URI_ordinal F_DataType_TIME_ordinal (by decide)) fun z => z.elim (own_ne F_DataType_ANY_URI_ordinal F_DataType_DATE_ordinal (by decide)) (own_ne F_DataType_ANY_URI_ordinal F_DataType_DATE_TIME_ordinal (by decide))))
    · exact rm0_fft l s _ hw tables_1 i0 8 A_DataType_HEX_BINARY A_DataType_STRING A_DataType_BOOLEAN A_DataType_INTEGER A_DataType_DOUBLE A_DataType_TIME A_DataType_DATE A_DataType_DATE_TIME A_DataType_ANY_URI A_DataType_HEX_BINARY A_DataType_BASE64_BINARY A_DataType_DAY_TIME_DURATION A_DataType_YEAR_MONTH_DURATION A_DataType_X500_NAME A_DataType_RFC822_NAME A_DataType_IP_ADDRESS A_DataType_DNS_NAME A_DataType_XPATH_EXPRESSION s.heap s.heap.size (Nat.le_refl _) S_DataType_STRING S_DataType_BOOLEAN S_DataType_INTEGER S_DataType_DOUBLE S_DataType_TIME S_DataType_DATE S_DataType_DATE_TIME S_DataType_ANY_URI S_DataType_HEX_BINARY S_DataType_BASE64_BINARY S_DataType_DAY_TIME_DURATION S_DataType_YEAR_MONTH_DURATION S_DataType_X500_NAME S_DataType_RFC822_NAME S_DataType_IP_ADDRESS S_DataType_DNS_NAME S_DataType_XPATH_EXPRESSION E_DataType_STRING E_DataType_BOOLEAN E_DataType_INTEGER E_DataType_DOUBLE E_DataType_TIME E_DataType_DATE E_DataType_DATE_TIME E_DataType_ANY_URI E_DataType_HEX_BINARY E_DataType_BASE64_BINARY E_DataType_DAY_TIME_DURATION E_DataType_YEAR_MONTH_DURATION E_DataType_X500_NAME E_DataType_RFC822_NAME E_DataType_IP_ADDRESS E_DataType_DNS_NAME E_DataType_XPATH_EXPRESSION E_DataType_HEX_BINARY (by decide) q rfl (by rw [q]; decide) (by rw [q]; decide) (by rw [q]; decide) (if_neg (fun z => z.elim (own_ne F_DataType_HEX_BINARY_ordinal F_DataType_TIME_ordinal (by decide)) fun z => z.elim (own_ne F_DataType_HEX_BINARY_ordinal F_DataType_DATE_ordinal (by decide)) (own_ne F_DataType_HEX_BINARY_ordinal F_DataType_DATE_TIME_ordinal (by decide))))
    · exact rm0_fft l s _ hw tables_1 i0 9 A_DataType_BASE64_BINARY A_DataType_STRING A_DataType_BOOLEAN A_DataType_INTEGER A_DataType_DOUBLE A_DataType_TIME A_DataType_DATE A_DataType_DATE_TIME A_DataType_ANY_URI A_DataType_HEX_BINARY A_DataType_BASE64_BINARY A_DataType_DAY_TIME_DURATION A_DataType_YEAR_MONTH_DURATION A_DataType_X500_NAME A_DataType_RFC822_NAME A_DataType_IP_ADDRESS A_DataType_DNS_NAME A_DataType_XPATH_EXPRESSION s.heap s.heap.size (Nat.le_refl _) S_DataType_STRING S_DataType_BOOLEAN S_DataType_INTEGER S_DataType_DOUBLE S_DataType_TIME S_DataType_DATE S_DataType_DATE_TIME S_DataType_ANY_URI S_DataType_HEX_BINARY S_DataType_BASE64_BINARY S_DataType_DAY_TIME_DURATION S_DataType_YEAR_MONTH_DURATION S_DataType_X500_NAME S_DataType_RFC822_NAME S_DataType_IP_ADDRESS S_DataType_DNS_NAME S_DataType_XPATH_EXPRESSION E_DataType_STRING E_DataType_BOOLEAN E_DataType_INTEGER E_DataType_DOUBLE E_DataType_TIME E_DataType_DATE E_DataType_DATE_TIME E_DataType_ANY_URI E_DataType_HEX_BINARY E_DataType_BASE64_BINARY E_DataType_DAY_TIME_DURATION E_DataType_YEAR_MONTH_DURATION E_DataType_X500_NAME E_DataType_RFC822_NAME E_DataType_IP_ADDRESS E_DataType_DNS_NAME E_DataType_XPATH_EXPRESSION E_DataType_BASE64_BINARY (by decide) q rfl (by rw [q]; decide) (by rw [q]; decide) (by rw [q]; decide) (if_neg (fun z => z.elim (own_ne F_DataType_BASE64_BINARY_ordinal F_DataType_TIME_ordinal (by decide)) fun z => z.elim (own_ne F_DataType_BASE64_BINARY_ordinal F_DataType_DATE_ordinal (by decide)) (own_ne F_DataType_BASE64_BINARY_ordinal F_DataType_DATE_TIME_ordinal (by decide))))
    · exact rm0_fft l s _ hw tables_1 i0 10 A_DataType_DAY_TIME_DURATION A_DataType_STRING A_DataType_BOOLEAN A_DataType_INTEGER A_DataType_DOUBLE A_DataType_TIME A_DataType_DATE A_DataType_DATE_TIME A_DataType_ANY_URI A_DataType_HEX_BINARY A_DataType_BASE64_BINARY A_DataType_DAY_TIME_DURATION A_DataType_YEAR_MONTH_DURATION A_DataType_X500_NAME A_DataType_RFC822_NAME A_DataType_IP_ADDRESS A_DataType_DNS_NAME A_DataType_XPATH_EXPRESSION s.heap s.heap.size (Nat.le_refl _) S_DataType_STRING S_DataType_BOOLEAN S_DataType_INTEGER S_DataType_DOUBLE S_DataType_TIME S_DataType_DATE S_DataType_DATE_TIME S_DataType_ANY_URI S_DataType_HEX_BINARY S_DataType_BASE64_BINARY S_DataType_DAY_TIME_DURATION S_DataType_YEAR_MONTH_DURATION S_DataType_X500_NAME S_DataType_RFC822_NAME S_DataType_IP_ADDRESS S_DataType_DNS_NAME S_DataType_XPATH_EXPRESSION E_DataType_STRING E_DataType_BOOLEAN E_DataType_INTEGER E_DataType_DOUBLE E_DataType_TIME E_DataType_DATE E_DataType_DATE_TIME E_DataType_ANY_URI E_DataType_HEX_BINARY E_DataType_BASE64_BINARY E_DataType_DAY_TIME_DURATION E_DataType_YEAR_MONTH_DURATION E_DataType_X500_NAME E_DataType_RFC822_NAME E_DataType_IP_ADDRESS E_DataType_DNS_NAME E_DataType_XPATH_EXPRESSION E_DataType_DAY_TIME_DURATION (by decide) q rfl (by rw [q]; decide) (by rw [q]; decide) (by rw [q]; decide) (if_neg (fun z => z.elim (own_ne F_DataType_DAY_TIME_DURATION_ordinal F_DataType_TIME_ordinal (by decide)) fun z => z.elim (own_ne F_DataType_DAY_TIME_DURATION_ordinal F_DataType_DATE_ordinal (by decide)) (own_ne F_DataType_DAY_TIME_DURATION_ordinal F_DataType_DATE_TIME_ordinal (by decide))))
    · exact rm0_fft l s _ hw tables_1 i0 11 A_DataType_YEAR_MONTH_DURATION A_DataType_STRING A_DataType_BOOLEAN A_DataType_INTEGER A_DataType_DOUBLE A_DataType_TIME A_DataType_DATE A_DataType_DATE_TIME A_DataType_ANY_URI A_DataType_HEX_BINARY A_DataType_BASE64_BINARY A_DataType_DAY_TIME_DURATION A_DataType_YEAR_MONTH_DURATION A_DataType_X500_NAME A_DataType_RFC822_NAME A_DataType_IP_ADDRESS A_DataType_DNS_NAME A_DataType_XPATH_EXPRESSION s.heap s.heap.size (Nat.le_refl _) S_DataType_STRING S_DataType_BOOLEAN S_DataType_INTEGER S_DataType_DOUBLE S_DataType_TIME S_DataType_DATE S_DataType_DATE_TIME S_DataType_ANY_URI S_DataType_HEX_BINARY S_DataType_BASE64_BINARY S_DataType_DAY_TIME_DURATION S_DataType_YEAR_MONTH_DURATION S_DataType_X500_NAME S_DataType_RFC822_NAME S_DataType_IP_ADDRESS S_DataType_DNS_NAME S_DataType_XPATH_EXPRESSION E_DataType_STRING E_DataType_BOOLEAN E_DataType_INTEGER E_DataType_DOUBLE E_DataType_TIME E_DataType_DATE E_DataType_DATE_TIME E_DataType_ANY_URI E_DataType_HEX_BINARY E_DataType_BASE64_BINARY E_DataType_DAY_TIME_DURATION E_DataType_YEAR_MONTH_DURATION E_DataType_X500_NAME E_DataType_RFC822_NAME E_DataType_IP_ADDRESS E_DataType_DNS_NAME E_DataType_XPATH_EXPRESSION E_DataType_YEAR_MONTH_DURATION (by decide) q rfl (by rw [q]; decide) (by rw [q]; decide) (by rw [q]; decide) (if_neg (fun z => z.elim (own_ne F_DataType_YEAR_MONTH_DURATION_ordinal F_DataType_TIME_ordinal (by decide)) fun z => z.elim (own_ne F_DataType_YEAR_MONTH_DURATION_ordinal F_DataType_DATE_ordinal (by decide)) (own_ne F_DataType_YEAR_MONTH_DURATION_ordinal F_DataType_DATE_TIME_ordinal (by decide))))
    · exact rm0_fft l s _ hw tables_1 i0 12 A_DataType_X500_NAME A_DataType_STRING A_DataType_BOOLEAN A_DataType_INTEGER A_DataType_DOUBLE A_DataType_TIME A_DataType_DATE A_DataType_DATE_TIME A_DataType_ANY_URI A_DataType_HEX_BINARY A_DataType_BASE64_BINARY A_DataType_DAY_TIME_DURATION A_DataType_YEAR_MONTH_DURATION A_DataType_X500_NAME A_DataType_RFC822_NAME A_DataType_IP_ADDRESS A_DataType_DNS_NAME A_DataType_XPATH_EXPRESSION s.heap s.heap.size (Nat.le_refl _) S_DataType_STRING S_DataType_BOOLEAN S_DataType_INTEGER S_DataType_DOUBLE S_DataType_TIME S_DataType_DATE S_DataType_DATE_TIME S_DataType_ANY_URI S_DataType_HEX_BINARY S_DataType_BASE64_BINARY S_DataType_DAY_TIME_DURATION S_DataType_YEAR_MONTH_DURATION S_DataType_X500_NAME S_DataType_RFC822_NAME S_DataType_IP_ADDRESS S_DataType_DNS_NAME S_DataType_XPATH_EXPRESSION E_DataType_STRING E_DataType_BOOLEAN E_DataType_INTEGER E_DataType_DOUBLE E_DataType_TIME E_DataType_DATE E_DataType_DATE_TIME E_DataType_ANY_URI E_DataType_HEX_BINARY E_DataType_BASE64_BINARY E_DataType_DAY_TIME_DURATION E_DataType_YEAR_MONTH_DURATION E_DataType_X500_NAME E_DataType_RFC822_NAME E_DataType_IP_ADDRESS E_DataType_DNS_NAME E_DataType_XPATH_EXPRESSION E_DataType_X500_NAME (by decide) q rfl (by rw [q]; decide) (by rw [q]; decide) (by rw [q]; decide) (if_neg (fun z => z.elim (own_ne F_DataType_X500_NAME_ordinal F_DataType_TIME_ordinal (by decide)) fun z => z.elim (own_ne F_DataType_X500_NAME_ordinal F_DataType_DATE_ordinal (by decide)) (own_ne F_DataType_X500_NAME_ordinal F_DataType_DATE_TIME_ordinal (by decide))))
    · exact rm0_fft l s _ hw tables_1 i0 13 A_DataType_RFC822_NAME A_DataType_STRING A_DataType_BOOLEAN A_DataType_INTEGER A_DataType_DOUBLE A_DataType_TIME A_DataType_DATE A_DataType_DATE_TIME A_DataType_ANY_URI A_DataType_HEX_BINARY A_DataType_BASE64_BINARY A_DataType_DAY_TIME_DURATION A_DataType_YEAR_MONTH_DURATION A_DataType_X500_NAME A_DataType_RFC822_NAME A_DataType_IP_ADDRESS A_DataType_DNS_NAME A_DataType_XPATH_EXPRESSION s.heap s.heap.size (Nat.le_refl _) S_DataType_STRING S_DataType_BOOLEAN S_DataType_INTEGER S_DataType_DOUBLE S_DataType_TIME S_DataType_DATE S_DataType_DATE_TIME S_DataType_ANY_URI S_DataType_HEX_BINARY S_DataType_BASE64_BINARY S_DataType_DAY_TIME_DURATION S_DataType_YEAR_MONTH_DURATION S_DataType_X500_NAME S_DataType_RFC822_NAME S_DataType_IP_ADDRESS S_DataType_DNS_NAME S_DataType_XPATH_EXPRESSION E_DataType_STRING E_DataType_BOOLEAN E_DataType_INTEGER E_DataType_DOUBLE E_DataType_TIME E_DataType_DATE E_DataType_DATE_TIME E_DataType_ANY_URI E_DataType_HEX_BINARY E_DataType_BASE64_BINARY E_DataType_DAY_TIME_DURATION E_DataType_YEAR_MONTH_DURATION E_DataType_X500_NAME E_DataType_RFC822_NAME E_DataType_IP_ADDRESS E_DataType_DNS_NAME E_DataType_XPATH_EXPRESSION E_DataType_RFC822_NAME (by decide) q rfl (by rw [q]; decide) (by rw [q]; decide) (by rw [q]; decide) (if_neg (fun z => z.elim (own_ne F_DataType_RFC822_NAME_ordinal F_DataType_TIME_ordinal (by decide)) fun z => z.elim (own_ne F_DataType_RFC822_NAME_ordinal F_DataType_DATE_ordinal (by decide)) (own_ne F_DataType_RFC822_NAME_ordinal F_DataType_DATE_TIME_ordinal (by decide))))
    · exact rm0_fft l s _ hw tables_1 i0 14 A_DataType_IP_ADDRESS A_DataType_STRING A_DataType_BOOLEAN A_DataType_INTEGER A_DataType_DOUBLE A_DataType_TIME A_DataType_DATE A_DataType_DATE_TIME A_DataType_ANY_URI A_DataType_HEX_BINARY A_DataType_BASE64_BINARY A_DataType_DAY_TIME_DURATION A_DataType_YEAR_MONTH_DURATION A_DataType_X500_NAME A_DataType_RFC822_NAME A_DataType_IP_ADDRESS A_DataType_DNS_NAME A_DataType_XPATH_EXPRESSION s.heap s.heap.size (Nat.le_refl _) S_DataType_STRING S_DataType_BOOLEAN S_DataType_INTEGER S_DataType_DOUBLE S_DataType_TIME S_DataType_DATE S_DataType_DATE_TIME S_DataType_ANY_URI S_DataType_HEX_BINARY S_DataType_BASE64_BINARY S_DataType_DAY_TIME_DURATION S_DataType_YEAR_MONTH_DURATION S_DataType_X500_NAME S_DataType_RFC822_NAME S_DataType_IP_ADDRESS S_DataType_DNS_NAME S_DataType_XPATH_EXPRESSION E_DataType_STRING E_DataType_BOOLEAN E_DataType_INTEGER E_DataType_DOUBLE E_DataType_TIME E_DataType_DATE E_DataType_DATE_TIME E_DataType_ANY_URI E_DataType_HEX_BINARY E_DataType_BASE64_BINARY E_DataType_DAY_TIME_DURATION E_DataType_YEAR_MONTH_DURATION E_DataType_X500_NAME E_DataType_RFC822_NAME E_DataType_IP_ADDRESS E_DataType_DNS_NAME E_DataType_XPATH_EXPRESSION E_DataType_IP_ADDRESS (by decide) q rfl (by rw [q]; decide) (by rw [q]; decide) (by rw [q]; decide) (if_neg (fun z => z.elim (own_ne F_DataType_IP_ADDRESS_ordinal F_DataType_TIME_ordinal (by decide)) fun z => z.elim (own_ne F_DataType_IP_ADDRESS_ordinal F_DataType_DATE_ordinal (by decide)) (own_ne F_DataType_IP_ADDRESS_ordinal F_DataType_DATE_TIME_ordinal (by decide))))
    · exact rm0_fft l s _ hw tables_1 i0 15 A_DataType_DNS_NAME A_DataType_STRING A_DataType_BOOLEAN A_DataType_INTEGER A_DataType_DOUBLE A_DataType_TIME A_DataType_DATE A_DataType_DATE_TIME A_DataType_ANY_URI A_DataType_HEX_BINARY A_DataType_BASE64_BINARY A_DataType_DAY_TIME_DURATION A_DataType_YEAR_MONTH_DURATION A_DataType_X500_NAME A_DataType_RFC822_NAME A_DataType_IP_ADDRESS A_DataType_DNS_NAME A_DataType_XPATH_EXPRESSION s.heap s.heap.size (Nat.le_refl _) S_DataType_STRING S_DataType_BOOLEAN S_DataType_INTEGER S_DataType_DOUBLE S_DataType_TIME S_DataType_DATE S_DataType_DATE_TIME S_DataType_ANY_URI S_DataType_HEX_BINARY S_DataType_BASE64_BINARY S_DataType_DAY_TIME_DURATION S_DataType_YEAR_MONTH_DURATION S_DataType_X500_NAME S_DataType_RFC822_NAME S_DataType_IP_ADDRESS S_DataType_DNS_NAME S_DataType_XPATH_EXPRESSION E_DataType_STRING E_DataType_BOOLEAN E_DataType_INTEGER E_DataType_DOUBLE E_DataType_TIME E_DataType_DATE E_DataType_DATE_TIME E_DataType_ANY_URI E_DataType_HEX_BINARY E_DataType_BASE64_BINARY E_DataType_DAY_TIME_DURATION E_DataType_YEAR_MONTH_DURATION E_DataType_X500_NAME E_DataType_RFC822_NAME E_DataType_IP_ADDRESS E_DataType_DNS_NAME E_DataType_XPATH_EXPRESSION E_DataType_DNS_NAME (by decide) q rfl (by rw [q]; decide) (by rw [q]; decide) (by rw [q]; decide) (if_neg (fun z => z.elim (own_ne F_DataType_DNS_NAME_ordinal F_DataType_TIME_ordinal (by decide)) fun z => z.elim (own_ne F_DataType_DNS_NAME_ordinal F_DataType_DATE_ordinal (by decide)) (own_ne F_DataType_DNS_NAME_ordinal F_DataType_DATE_TIME_ordinal (by decide))))
    · exact rm0_fft l s _ hw tables_1 i0 16 A_DataType_XPATH_EXPRESSION A_DataType_STRING A_DataType_BOOLEAN A_DataType_INTEGER A_DataType_DOUBLE A_DataType_TIME A_DataType_DATE A_DataType_DATE_TIME A_DataType_ANY_URI A_DataType_HEX_BINARY A_DataType_BASE64_BINARY A_DataType_DAY_TIME_DURATION A_DataType_YEAR_MONTH_DURATION A_DataType_X500_NAME A_DataType_RFC822_NAME A_DataType_IP_ADDRESS A_DataType_DNS_NAME A_DataType_XPATH_EXPRESSION s.heap s.heap.size (Nat.le_refl _) S_DataType_STRING S_DataType_BOOLEAN S_DataType_INTEGER S_DataType_DOUBLE S_DataType_TIME S_DataType_DATE S_DataType_DATE_TIME S_DataType_ANY_URI S_DataType_HEX_BINARY S_DataType_BASE64_BINARY S_DataType_DAY_TIME_DURATION S_DataType_YEAR_MONTH_DURATION S_DataType_X500_NAME S_DataType_RFC822_NAME S_DataType_IP_ADDRESS S_DataType_DNS_NAME S_DataType_XPATH_EXPRESSION E_DataType_STRING E_DataType_BOOLEAN E_DataType_INTEGER E_DataType_DOUBLE E_DataType_TIME E_DataType_DATE E_DataType_DATE_TIME E_DataType_ANY_URI E_DataType_HEX_BINARY E_DataType_BASE64_BINARY E_DataType_DAY_TIME_DURATION E_DataType_YEAR_MONTH_DURATION E_DataType_X500_NAME E_DataType_RFC822_NAME E_DataType_IP_ADDRESS E_DataType_DNS_NAME E_DataType_XPATH_EXPRESSION E_DataType_XPATH_EXPRESSION (by decide) q rfl (by rw [q]; decide) (by rw [q]; decide) (by rw [q]; decide) (if_neg (fun z => z.elim (own_ne F_DataType_XPATH_EXPRESSION_ordinal F_DataType_TIME_ordinal (by decide)) fun z => z.elim (own_ne F_DataType_XPATH_EXPRESSION_ordinal F_DataType_DATE_ordinal (by decide)) (own_ne F_DataType_XPATH_EXPRESSION_ordinal F_DataType_DATE_TIME_ordinal (by decide))))
  obtain ⟨n, o, h1, h2, h3, _, L, rfl, ⟨rfl, N⟩, hq⟩ := hmain p e ha hc hk s m _ below hf ((Spec.applies_iff_loose hf).mp happ).1 ⟨rfl, State.Warmed39.refl s, rfl⟩ trivial
  refine ⟨n, _, h1, h2, h3, hpost _ _ _ _ _ _ ⟨Cond.after_iff.mpr rfl, Cond.after_iff.mpr (eq_i res_at (Term.int_eval (1)) rfl), trivial⟩ ⟨hq.1, hq.2.1, (hq.2.2.sift fun y hy => Or.inr (N y hy)).mono (by decide) (by decide)⟩⟩
theorem main_1_1 : Claimed_1_1 := comes_1 fun _ _ _ _ _ _ h hF => ⟨h.1, hF⟩
theorem main_1_2 : Claimed_1_2 := comes_1 fun _ _ _ _ _ _ h hF => ⟨h.2.1, hF⟩
end Jvm.Pilot.@@N@@
namespace Jvm.Pilot.@@N@@
open Jvm Jvm.ClassFile Sem Op Lib Jvm.Free Jvm.Stand Jvm.Pilot.@@N@@.Jvm.D
/-! MADE BY PROGRAM (witnessworld.py) out of the Statement's table words and the real class files: 13 classes; the members and pool entries that the words name. The judged class is class 1, her method 1. -/
namespace start1
open Jvm.ClassFile
def u (s : String) : CpInfo := .utf8 (stringToUtf16 s)
/-- a pool by its gaps: so many unusable entries, then the entry; so many at the end -/
def gap : Nat → List CpInfo → List CpInfo
  | 0, r => r
  | n + 1, r => .unusable :: gap n r
def poolList (es : List (Nat × CpInfo)) (last : Nat) : List CpInfo := es.foldr (fun e r => gap e.1 (e.2 :: r)) (gap last [])
def pool (es : List (Nat × CpInfo)) (last : Nat) : Array CpInfo := ⟨poolList es last⟩
def fileOf (pool : Array CpInfo) (this : Nat) (attrs : Array Attribute := #[]) (ms : Array MethodInfo := #[]) (fl : Nat := 33) (sup : Nat := 0) (ifs : Array Nat := #[]) (fds : Array FieldInfo := #[]) : ClassFile where
  minorVersion := 0
  majorVersion := 65
  constantPool := pool
  accessFlags := fl
  thisClass := this
  superClass := sup
  interfaces := ifs
  fields := fds
  methods := ms
  attributes := attrs
def plain (name : String) (sup : Option ClassId) : Class where
  name := name
  kind := .ordinary
  loader := none
  accessFlags := 33
  super := sup
  interfaces := #[]
  cf := none
  fields := #[]
  methods := #[]
  instanceTypes := #[]
  staticTypes := #[]
  resolved := #[]
  callSites := []
  init := .initialized
  statics := none
  mirror := none

def pool0 : Array CpInfo := pool [(5, u "<init>"), (0, u "()V"), (1, .class_ 10), (1, u "java/lang/Object")] 113

def k0m0 : Method := { name := "<init>", desc := "()V", sig := { parameters := [], returnType := none }, accessFlags := 1, code := none }
/-- java/lang/Object -/
def k0 : Class := { plain "java/lang/Object" none with
  accessFlags := 33
  interfaces := #[]
  cf := some (fileOf pool0 8 #[] #[{ accessFlags := 1, nameIndex := 5, descriptorIndex := 6, attributes := #[] }] 33 0 #[] #[])
  fields := #[]
  methods := #[k0m0]
  instanceTypes := #[]
  staticTypes := #[]
  resolved := Array.replicate 124 none
  statics := none }

def pool1 : Array CpInfo := pool [(2, .class_ 4), (1, u "java/lang/Object"), (0, u "<init>"), (0, u "()V"), (0, .class_ 8), (0, u "com/example/authzlint/authzlint/model/DataType"), (0, .fieldref 7 10), (0, .nameAndType 11 12), (0, u "STRING"), (0, u "Lcom/example/authzlint/authzlint/model/DataType;"), (0, .fieldref 7 14), (0, .nameAndType 15 12), (0, u "BOOLEAN"), (0, .fieldref 7 17), (0, .nameAndType 18 12), (0, u "INTEGER"), (0, .fieldref 7 20), (0, .nameAndType 21 12), (0, u "DOUBLE"), (0, .fieldref 7 23), (0, .nameAndType 24 12), (0, u "TIME"), (0, .fieldref 7 26), (0, .nameAndType 27 12), (0, u "DATE"), (0, .fieldref 7 29), (0, .nameAndType 30 12), (0, u "DATE_TIME"), (0, .fieldref 7 32), (0, .nameAndType 33 12), (0, u "ANY_URI"), (0, .fieldref 7 35), (0, .nameAndType 36 12), (0, u "HEX_BINARY"), (0, .fieldref 7 38), (0, .nameAndType 39 12), (0, u "BASE64_BINARY"), (0, .fieldref 7 41), (0, .nameAndType 42 12), (0, u "DAY_TIME_DURATION"), (0, .fieldref 7 44), (0, .nameAndType 45 12), (0, u "YEAR_MONTH_DURATION"), (0, .fieldref 7 47), (0, .nameAndType 48 12), (0, u "X500_NAME"), (0, .fieldref 7 50), (0, .nameAndType 51 12), (0, u "RFC822_NAME"), (0, .fieldref 7 53), (0, .nameAndType 54 12), (0, u "IP_ADDRESS"), (0, .fieldref 7 56), (0, .nameAndType 57 12), (0, u "DNS_NAME"), (0, .fieldref 7 59), (0, .nameAndType 60 12), (0, u "XPATH_EXPRESSION"), (0, .integer 2147483647), (0, .methodref 7 63), (0, .nameAndType 64 65), (0, u "hasTimeZones"), (0, u "()Z"), (0, .class_ 67), (0, u "com/example/authzlint/authzlint/model/DataTypeHasTimeZonesPinLaw"), (2, u "law"), (0, u "(I)Z")] 5

def k1m0 : Method := { name := "<init>", desc := "()V", sig := { parameters := [], returnType := none }, accessFlags := 2, code := none }
def k1c1 : Code := { maxStack := 4, maxLocals := 5, code := code, exceptionTable := #[], attributes := #[] }
def k1m1 : Method := { name := "law", desc := "(I)Z", sig := { parameters := [.int], returnType := some .boolean }, accessFlags := 9, code := some k1c1 }
/-- com/example/authzlint/authzlint/model/DataTypeHasTimeZonesPinLaw -/
def k1 : Class := { plain "com/example/authzlint/authzlint/model/DataTypeHasTimeZonesPinLaw" (some 0) with
  accessFlags := 49
  interfaces := #[]
  cf := some (fileOf pool1 66 #[] #[{ accessFlags := 2, nameIndex := 5, descriptorIndex := 6, attributes := #[] }, { accessFlags := 9, nameIndex := 70, descriptorIndex := 71, attributes := #[] }] 49 2 #[] #[])
  fields := #[]
  methods := #[k1m0, k1m1]
  instanceTypes := #[]
  staticTypes := #[]
  resolved := Array.replicate 77 none
  statics := none }

def pool2 : Array CpInfo := pool [(1, .class_ 2), (0, u "java/lang/constant/Constable"), (0, .class_ 4), (0, u "java/lang/Object")] 6

/-- java/lang/constant/Constable -/
def k2 : Class := { plain "java/lang/constant/Constable" (some 0) with
  accessFlags := 1537
  interfaces := #[]
  cf := some (fileOf pool2 1 #[] #[] 1537 3 #[] #[])
  fields := #[]
  methods := #[]
  instanceTypes := #[]
  staticTypes := #[]
  resolved := Array.replicate 11 none
  statics := none }

def pool3 : Array CpInfo := pool [(1, .class_ 2), (0, u "java/lang/Comparable"), (0, .class_ 4), (0, u "java/lang/Object")] 7

/-- java/lang/Comparable -/
def k3 : Class := { plain "java/lang/Comparable" (some 0) with
  accessFlags := 1537
  interfaces := #[]
  cf := some (fileOf pool3 1 #[] #[] 1537 3 #[] #[])
  fields := #[]
  methods := #[]
  instanceTypes := #[]
  staticTypes := #[]
  resolved := Array.replicate 12 none
  statics := none }

def pool4 : Array CpInfo := pool [(1, .class_ 2), (0, u "java/io/Serializable"), (0, .class_ 4), (0, u "java/lang/Object")] 2

/-- java/io/Serializable -/
def k4 : Class := { plain "java/io/Serializable" (some 0) with
  accessFlags := 1537
  interfaces := #[]
  cf := some (fileOf pool4 1 #[] #[] 1537 3 #[] #[])
  fields := #[]
  methods := #[]
  instanceTypes := #[]
  staticTypes := #[]
  resolved := Array.replicate 7 none
  statics := none }

def pool5 : Array CpInfo := pool [(2, .class_ 4), (1, u "java/lang/Enum"), (0, u "name"), (0, u "Ljava/lang/String;"), (2, u "ordinal"), (0, u "I"), (1, .class_ 14), (1, u "java/lang/Object"), (4, u "hash"), (86, .class_ 108), (1, u "java/lang/Enum$EnumDesc"), (2, .class_ 112), (0, u "java/lang/constant/Constable"), (0, .class_ 114), (0, u "java/lang/Comparable"), (0, .class_ 116), (0, u "java/io/Serializable")] 87

/-- java/lang/Enum -/
def k5 : Class := { plain "java/lang/Enum" (some 0) with
  accessFlags := 1057
  interfaces := #[2, 3, 4]
  cf := some (fileOf pool5 2 #[.nestMembers #[106]] #[] 1057 12 #[111, 113, 115] #[{ accessFlags := 18, nameIndex := 5, descriptorIndex := 6, attributes := #[] }, { accessFlags := 18, nameIndex := 9, descriptorIndex := 10, attributes := #[] }, { accessFlags := 2, nameIndex := 19, descriptorIndex := 10, attributes := #[] }])
  fields := #[{ name := "name", type := (.object "java/lang/String"), accessFlags := 18, slot := 0, constantValue := 0 }, { name := "ordinal", type := .int, accessFlags := 18, slot := 1, constantValue := 0 }, { name := "hash", type := .int, accessFlags := 2, slot := 2, constantValue := 0 }]
  methods := #[]
  instanceTypes := #[(.object "java/lang/String"), .int, .int]
  staticTypes := #[]
  resolved := Array.replicate 204 none
  statics := none }

def pool6 : Array CpInfo := pool [(1, .class_ 2), (0, u "com/example/authzlint/authzlint/model/DataType"), (2, u "STRING"), (0, u "Lcom/example/authzlint/authzlint/model/DataType;"), (2, u "BOOLEAN"), (2, u "INTEGER"), (2, u "DOUBLE"), (0, .fieldref 1 17), (0, .nameAndType 18 6), (0, u "TIME"), (0, .fieldref 1 20), (0, .nameAndType 21 6), (0, u "DATE"), (0, .fieldref 1 23), (0, .nameAndType 24 6), (0, u "DATE_TIME"), (2, u "ANY_URI"), (2, u "HEX_BINARY"), (2, u "BASE64_BINARY"), (2, u "DAY_TIME_DURATION"), (2, u "YEAR_MONTH_DURATION"), (2, u "X500_NAME"), (2, u "RFC822_NAME"), (2, u "IP_ADDRESS"), (2, u "DNS_NAME"), (2, u "XPATH_EXPRESSION"), (2, u "$VALUES"), (0, u "[Lcom/example/authzlint/authzlint/model/DataType;"), (6, .class_ 67), (1, u "java/lang/Enum"), (8, u "functionName"), (0, u "Ljava/lang/String;"), (8, u "identifiers"), (0, u "Ljava/util/List;"), (79, u "()Z"), (100, u "EARLIEST_ZONED_TIME"), (0, u "Lcom/example/authzlint/authzlint/model/Decimal;"), (10, u "hasTimeZones"), (22, u "END_OF_ZONED_TIMES"), (2, u "END_OF_DAY"), (162, u "WHITE_SPACE"), (0, u "Ljava/util/regex/Pattern;"), (31, u "INTEGER_TEXT"), (5, u "DOUBLE_TEXT"), (6, u "TIME_TEXT"), (28, u "DATE_TEXT"), (7, u "DATE_TIME_TEXT"), (156, u "DATE_PART"), (3, u "TIME_PART"), (2, u "ZONE_PART"), (2, u "SECONDS_A_DAY"), (0, u "J"), (0, u "MINUTES_A_DAY"), (0, u "MOST_ZONE_SECONDS"), (0, u "LEAST_CHARACTER")] 129

def k6c0 : Code := { maxStack := 2, maxLocals := 1, code := prog_79_method_26_code, exceptionTable := #[], attributes := #[] }
def k6m0 : Method := { name := "hasTimeZones", desc := "()Z", sig := { parameters := [], returnType := some .boolean }, accessFlags := 1, code := some k6c0 }
/-- com/example/authzlint/authzlint/model/DataType -/
def k6 : Class := { plain "com/example/authzlint/authzlint/model/DataType" (some 5) with
  accessFlags := 16433
  interfaces := #[]
  cf := some (fileOf pool6 1 #[] #[{ accessFlags := 1, nameIndex := 280, descriptorIndex := 167, attributes := #[] }] 16433 65 #[] #[{ accessFlags := 16409, nameIndex := 5, descriptorIndex := 6, attributes := #[] }, { accessFlags := 16409, nameIndex := 9, descriptorIndex := 6, attributes := #[] }, { accessFlags := 16409, nameIndex := 12, descriptorIndex := 6, attributes := #[] }, { accessFlags := 16409, nameIndex := 15, descriptorIndex := 6, attributes := #[] }, { accessFlags := 16409, nameIndex := 18, descriptorIndex := 6, attributes := #[] }, { accessFlags := 16409, nameIndex := 21, descriptorIndex := 6, attributes := #[] }, { accessFlags := 16409, nameIndex := 24, descriptorIndex := 6, attributes := #[] }, { accessFlags := 16409, nameIndex := 27, descriptorIndex := 6, attributes := #[] }, { accessFlags := 16409, nameIndex := 30, descriptorIndex := 6, attributes := #[] }, { accessFlags := 16409, nameIndex := 33, descriptorIndex := 6, attributes := #[] }, { accessFlags := 16409, nameIndex := 36, descriptorIndex := 6, attributes := #[] }, { accessFlags := 16409, nameIndex := 39, descriptorIndex := 6, attributes := #[] }, { accessFlags := 16409, nameIndex := 42, descriptorIndex := 6, attributes := #[] }, { accessFlags := 16409, nameIndex := 45, descriptorIndex := 6, attributes := #[] }, { accessFlags := 16409, nameIndex := 48, descriptorIndex := 6, attributes := #[] }, { accessFlags := 16409, nameIndex := 51, descriptorIndex := 6, attributes := #[] }, { accessFlags := 16409, nameIndex := 54, descriptorIndex := 6, attributes := #[] }, { accessFlags := 26, nameIndex := 502, descriptorIndex := 470, attributes := #[] }, { accessFlags := 26, nameIndex := 508, descriptorIndex := 470, attributes := #[] }, { accessFlags := 26, nameIndex := 709, descriptorIndex := 77, attributes := #[] }, { accessFlags := 26, nameIndex := 713, descriptorIndex := 77, attributes := #[] }, { accessFlags := 26, nameIndex := 716, descriptorIndex := 77, attributes := #[] }, { accessFlags := 26, nameIndex := 515, descriptorIndex := 470, attributes := #[] }, { accessFlags := 26, nameIndex := 544, descriptorIndex := 470, attributes := #[] }, { accessFlags := 26, nameIndex := 552, descriptorIndex := 470, attributes := #[] }, { accessFlags := 26, nameIndex := 719, descriptorIndex := 720, attributes := #[] }, { accessFlags := 26, nameIndex := 721, descriptorIndex := 720, attributes := #[] }, { accessFlags := 26, nameIndex := 722, descriptorIndex := 720, attributes := #[] }, { accessFlags := 26, nameIndex := 268, descriptorIndex := 269, attributes := #[] }, { accessFlags := 26, nameIndex := 303, descriptorIndex := 269, attributes := #[] }, { accessFlags := 26, nameIndex := 306, descriptorIndex := 269, attributes := #[] }, { accessFlags := 26, nameIndex := 469, descriptorIndex := 470, attributes := #[] }, { accessFlags := 26, nameIndex := 723, descriptorIndex := 77, attributes := #[] }, { accessFlags := 18, nameIndex := 76, descriptorIndex := 77, attributes := #[] }, { accessFlags := 18, nameIndex := 86, descriptorIndex := 87, attributes := #[] }, { accessFlags := 4122, nameIndex := 57, descriptorIndex := 58, attributes := #[] }])
  fields := #[{ name := "STRING", type := (.object "com/example/authzlint/authzlint/model/DataType"), accessFlags := 16409, slot := 0, constantValue := 0 }, { name := "BOOLEAN", type := (.object "com/example/authzlint/authzlint/model/DataType"), accessFlags := 16409, slot := 1, constantValue := 0 }, { name := "INTEGER", type := (.object "com/example/authzlint/authzlint/model/DataType"), accessFlags := 16409, slot := 2, constantValue := 0 }, { name := "DOUBLE", type := (.object "com/example/authzlint/authzlint/model/DataType"), accessFlags := 16409, slot := 3, constantValue := 0 }, { name := "TIME", type := (.object "com/example/authzlint/authzlint/model/DataType"), accessFlags := 16409, slot := 4, constantValue := 0 }, { name := "DATE", type := (.object "com/example/authzlint/authzlint/model/DataType"), accessFlags := 16409, slot := 5, constantValue := 0 }, { name := "DATE_TIME", type := (.object "com/example/authzlint/authzlint/model/DataType"), accessFlags := 16409, slot := 6, constantValue := 0 }, { name := "ANY_URI", type := (.object "com/example/authzlint/authzlint/model/DataType"), accessFlags := 16409, slot := 7, constantValue := 0 }, { name := "HEX_BINARY", type := (.object "com/example/authzlint/authzlint/model/DataType"), accessFlags := 16409, slot := 8, constantValue := 0 }, { name := "BASE64_BINARY", type := (.object "com/example/authzlint/authzlint/model/DataType"), accessFlags := 16409, slot := 9, constantValue := 0 }, { name := "DAY_TIME_DURATION", type := (.object "com/example/authzlint/authzlint/model/DataType"), accessFlags := 16409, slot := 10, constantValue := 0 }, { name := "YEAR_MONTH_DURATION", type := (.object "com/example/authzlint/authzlint/model/DataType"), accessFlags := 16409, slot := 11, constantValue := 0 }, { name := "X500_NAME", type := (.object "com/example/authzlint/authzlint/model/DataType"), accessFlags := 16409, slot := 12, constantValue := 0 }, { name := "RFC822_NAME", type := (.object "com/example/authzlint/authzlint/model/DataType"), accessFlags := 16409, slot := 13, constantValue := 0 }, { name := "IP_ADDRESS", type := (.object "com/example/authzlint/authzlint/model/DataType"), accessFlags := 16409, slot := 14, constantValue := 0 }, { name := "DNS_NAME", type := (.object "com/example/authzlint/authzlint/model/DataType"), accessFlags := 16409, slot := 15, constantValue := 0 }, { name := "XPATH_EXPRESSION", type := (.object "com/example/authzlint/authzlint/model/DataType"), accessFlags := 16409, slot := 16, constantValue := 0 }, { name := "INTEGER_TEXT", type := (.object "java/util/regex/Pattern"), accessFlags := 26, slot := 17, constantValue := 0 }, { name := "DOUBLE_TEXT", type := (.object "java/util/regex/Pattern"), accessFlags := 26, slot := 18, constantValue := 0 }, { name := "DATE_PART", type := (.object "java/lang/String"), accessFlags := 26, slot := 19, constantValue := 0 }, { name := "TIME_PART", type := (.object "java/lang/String"), accessFlags := 26, slot := 20, constantValue := 0 }, { name := "ZONE_PART", type := (.object "java/lang/String"), accessFlags := 26, slot := 21, constantValue := 0 }, { name := "TIME_TEXT", type := (.object "java/util/regex/Pattern"), accessFlags := 26, slot := 22, constantValue := 0 }, { name := "DATE_TEXT", type := (.object "java/util/regex/Pattern"), accessFlags := 26, slot := 23, constantValue := 0 }, { name := "DATE_TIME_TEXT", type := (.object "java/util/regex/Pattern"), accessFlags := 26, slot := 24, constantValue := 0 }, { name := "SECONDS_A_DAY", type := .long, accessFlags := 26, slot := 25, constantValue := 0 }, { name := "MINUTES_A_DAY", type := .long, accessFlags := 26, slot := 26, constantValue := 0 }, { name := "MOST_ZONE_SECONDS", type := .long, accessFlags := 26, slot := 27, constantValue := 0 }, { name := "EARLIEST_ZONED_TIME", type := (.object "com/example/authzlint/authzlint/model/Decimal"), accessFlags := 26, slot := 28, constantValue := 0 }, { name := "END_OF_ZONED_TIMES", type := (.object "com/example/authzlint/authzlint/model/Decimal"), accessFlags := 26, slot := 29, constantValue := 0 }, { name := "END_OF_DAY", type := (.object "com/example/authzlint/authzlint/model/Decimal"), accessFlags := 26, slot := 30, constantValue := 0 }, { name := "WHITE_SPACE", type := (.object "java/util/regex/Pattern"), accessFlags := 26, slot := 31, constantValue := 0 }, { name := "LEAST_CHARACTER", type := (.object "java/lang/String"), accessFlags := 26, slot := 32, constantValue := 0 }, { name := "functionName", type := (.object "java/lang/String"), accessFlags := 18, slot := 3, constantValue := 0 }, { name := "identifiers", type := (.object "java/util/List"), accessFlags := 18, slot := 4, constantValue := 0 }, { name := "$VALUES", type := (.array (.object "com/example/authzlint/authzlint/model/DataType")), accessFlags := 4122, slot := 33, constantValue := 0 }]
  methods := #[k6m0]
  instanceTypes := #[(.object "java/lang/String"), .int, .int, (.object "java/lang/String"), (.object "java/util/List")]
  staticTypes := #[(.object "com/example/authzlint/authzlint/model/DataType"), (.object "com/example/authzlint/authzlint/model/DataType"), (.object "com/example/authzlint/authzlint/model/DataType"), (.object "com/example/authzlint/authzlint/model/DataType"), (.object "com/example/authzlint/authzlint/model/DataType"), (.object "com/example/authzlint/authzlint/model/DataType"), (.object "com/example/authzlint/authzlint/model/DataType"), (.object "com/example/authzlint/authzlint/model/DataType"), (.object "com/example/authzlint/authzlint/model/DataType"), (.object "com/example/authzlint/authzlint/model/DataType"), (.object "com/example/authzlint/authzlint/model/DataType"), (.object "com/example/authzlint/authzlint/model/DataType"), (.object "com/example/authzlint/authzlint/model/DataType"), (.object "com/example/authzlint/authzlint/model/DataType"), (.object "com/example/authzlint/authzlint/model/DataType"), (.object "com/example/authzlint/authzlint/model/DataType"), (.object "com/example/authzlint/authzlint/model/DataType"), (.object "java/util/regex/Pattern"), (.object "java/util/regex/Pattern"), (.object "java/lang/String"), (.object "java/lang/String"), (.object "java/lang/String"), (.object "java/util/regex/Pattern"), (.object "java/util/regex/Pattern"), (.object "java/util/regex/Pattern"), .long, .long, .long, (.object "com/example/authzlint/authzlint/model/Decimal"), (.object "com/example/authzlint/authzlint/model/Decimal"), (.object "com/example/authzlint/authzlint/model/Decimal"), (.object "java/util/regex/Pattern"), (.object "java/lang/String"), (.array (.object "com/example/authzlint/authzlint/model/DataType"))]
  resolved := Array.replicate 853 none
  statics := some 0 }

def pool7 : Array CpInfo := pool [(1, u "java/lang/Cloneable"), (0, .class_ 1), (0, u "java/lang/Object"), (0, .class_ 3)] 3

/-- java/lang/Cloneable -/
def k7 : Class := { plain "java/lang/Cloneable" (some 0) with
  accessFlags := 1537
  interfaces := #[]
  cf := some (fileOf pool7 2 #[] #[] 1537 4 #[] #[])
  fields := #[]
  methods := #[]
  instanceTypes := #[]
  staticTypes := #[]
  resolved := Array.replicate 8 none
  statics := none }

/-- the primitive byte -/
def k8 : Class := { plain "byte" none with kind := .primitive 'B', accessFlags := 0x411 }
/-- [B -/
def k9 : Class := { plain "[B" (some 0) with kind := .array 8 .byte, interfaces := #[7, 4], accessFlags := 1041 }

/-- the primitive int -/
def k10 : Class := { plain "int" none with kind := .primitive 'I', accessFlags := 0x411 }
/-- [I -/
def k11 : Class := { plain "[I" (some 0) with kind := .array 10 .int, interfaces := #[7, 4], accessFlags := 1041 }

/-- [Lcom/example/authzlint/authzlint/model/DataType; -/
def k12 : Class := { plain "[Lcom/example/authzlint/authzlint/model/DataType;" (some 0) with kind := .array 6 (.object "com/example/authzlint/authzlint/model/DataType"), interfaces := #[7, 4], accessFlags := 1041 }

def heap : Heap := #[{ cls := 6, slots := #[.ref 1, .ref 2, .ref 3, .ref 4, .ref 5, .ref 6, .ref 7, .ref 8, .ref 9, .ref 10, .ref 11, .ref 12, .ref 13, .ref 14, .ref 15, .ref 16, .ref 17, .null, .null, .null, .null, .null, .null, .null, .null, .long 0, .long 0, .long 0, .null, .null, .null, .null, .null, .null], vm := .statics 6 },
  { cls := 6, slots := #[.null, .int 0, .int 0, .null, .null], vm := .none },
  { cls := 6, slots := #[.null, .int 1, .int 0, .null, .null], vm := .none },
  { cls := 6, slots := #[.null, .int 2, .int 0, .null, .null], vm := .none },
  { cls := 6, slots := #[.null, .int 3, .int 0, .null, .null], vm := .none },
  { cls := 6, slots := #[.null, .int 4, .int 0, .null, .null], vm := .none },
  { cls := 6, slots := #[.null, .int 5, .int 0, .null, .null], vm := .none },
  { cls := 6, slots := #[.null, .int 6, .int 0, .null, .null], vm := .none },
  { cls := 6, slots := #[.null, .int 7, .int 0, .null, .null], vm := .none },
  { cls := 6, slots := #[.null, .int 8, .int 0, .null, .null], vm := .none },
  { cls := 6, slots := #[.null, .int 9, .int 0, .null, .null], vm := .none },
  { cls := 6, slots := #[.null, .int 10, .int 0, .null, .null], vm := .none },
  { cls := 6, slots := #[.null, .int 11, .int 0, .null, .null], vm := .none },
  { cls := 6, slots := #[.null, .int 12, .int 0, .null, .null], vm := .none },
  { cls := 6, slots := #[.null, .int 13, .int 0, .null, .null], vm := .none },
  { cls := 6, slots := #[.null, .int 14, .int 0, .null, .null], vm := .none },
  { cls := 6, slots := #[.null, .int 15, .int 0, .null, .null], vm := .none },
  { cls := 6, slots := #[.null, .int 16, .int 0, .null, .null], vm := .none }]
def classes : Array Class := #[k0, k1, k2, k3, k4, k5, k6, k7, k8, k9, k10, k11, k12]
def interned : List (Array UInt16 × Addr) := []
def slotsUsed : Nat := 119
def theMethod : MethodId := ⟨1, 1⟩
def args0 : Array Value := #[.int 4]
def aboutOver (below : List Frame) : State where
  vm := { classes := classes, interned := interned.toArray }
  heap := heap
  slotsUsed := slotsUsed
  threads := #[{ frames := .invoking theMethod args0 :: below }]
def below0 : List Frame := [.native { method := ⟨0, 0⟩, args := #[] }]
def about1 : State := aboutOver below0
def p0 : Program := .bare "" "" ""
def e0 : Env := launch0.env 0 0 0
theorem w_frames : about1.frames = Frame.invoking theMethod args0 :: below0 := rfl
set_option maxRecDepth 65536 in
theorem w_args : argsFit about1.vm theMethod args0 = true := by decide +kernel
set_option maxRecDepth 65536 in
theorem w_heap : heapFits about1 = true := by decide +kernel
set_option maxRecDepth 65536 in
theorem w_runnable : about1.curStatus? = some .runnable := by decide +kernel
set_option maxRecDepth 65536 in
theorem w_alone : about1.alone = true := by decide +kernel
set_option maxRecDepth 65536 in
theorem w_named : about1.methodNamed? x = some theMethod := by decide +kernel
set_option maxRecDepth 65536 in
theorem w_hears : about1.hears theMethod below0 = true := by decide +kernel
set_option maxRecDepth 65536 in
theorem w_ripe : about1.ripe theMethod args0 below0 = true := by decide +kernel
theorem w_running : about1.status = .running := rfl
set_option maxRecDepth 65536 in
theorem w_room : about1.hasRoom e0.platform room_1 = true :=
  launch0.hasRoom_least _ room_1 (by decide +kernel) (by decide +kernel) (by decide +kernel) (by decide +kernel) (by decide +kernel) (by decide +kernel)
theorem allAtoms_all (ts : List Jvm.Cond) (a : Array Jvm.Value) (st : Jvm.State) : (allAtoms ts).before a st = ts.all (fun c => c.before a st) := by
  induction ts with
  | nil => rfl
  | cons c t ih =>
    show (Jvm.Cond.and c (allAtoms t)).before a st = _
    rw [Jvm.Cond.before_and, ih, List.all_cons]
def words1 : List Jvm.Cond := Jvm.Cond.code x code maxLocals ret :: tables_1
/-- a 'code' word, met by the world's own term for the bytes: nothing is compared byte by byte -/
theorem code_word {y : MethodName} {bytes : ByteArray} {mx : Nat} {rt : Option FieldType} {a : Array Value} {s : State} {m : MethodId} {meth : Method} {c : Code} (h1 : s.methodNamed? y = some m) (h2 : s.vm.method? m = some meth) (h3 : meth.code = some c) (h4 : c.code = bytes)
    (h5 : (c.maxLocals == mx && c.exceptionTable.isEmpty && decide (c.maxStack ≤ mostOperands) && decide (meth.sig.returnType = rt) && !meth.locks && decide (parseMethodDescriptor y.desc = some meth.sig)) = true) : (Jvm.Cond.code y bytes mx rt).before a s = true := by
  simp only [Bool.and_eq_true, beq_iff_eq, Bool.not_eq_true', decide_eq_true_eq] at h5
  obtain ⟨⟨⟨⟨⟨g1, g2⟩, g3⟩, g4⟩, g5⟩, g6⟩ := h5
  simp [Cond.before, Cond.holds, Cond.value, h1, h2, h3, h4, g1, g2, g3, g4, g5, g6]
def isCode : Jvm.Cond → Bool
  | .code _ _ _ _ => true
  | _ => false
theorem all_split {L : List Jvm.Cond} {P : Jvm.Cond → Bool} (h1 : L.all (fun c => isCode c || P c) = true) (h2 : ∀ c ∈ L.filter isCode, P c = true) : L.all P = true := by
  refine List.all_eq_true.mpr fun c hc => ?_
  have h := List.all_eq_true.mp h1 c hc
  rcases Bool.eq_false_or_eq_true (isCode c) with hi | hi
  · exact h2 c (List.mem_filter.mpr ⟨hc, hi⟩)
  · simpa [hi] using h
set_option maxRecDepth 65536 in
theorem w_c0 : (Jvm.Cond.code x code maxLocals ret).before args0 about1 = true := code_word (m := ⟨1, 1⟩) (meth := k1m1) (c := k1c1) (by decide +kernel) rfl rfl rfl (by decide +kernel)
set_option maxRecDepth 65536 in
theorem w_c1 : (Jvm.Cond.code ({ cls := "com/example/authzlint/authzlint/model/DataType", name := "hasTimeZones", desc := "()Z" } : Jvm.MethodName) prog_79_method_26_code (1 : Nat) (Option.some Jvm.ClassFile.FieldType.boolean)).before args0 about1 = true := code_word (m := ⟨6, 0⟩) (meth := k6m0) (c := k6c0) (by decide +kernel) rfl rfl rfl (by decide +kernel)
def codes1 : List Jvm.Cond := [Jvm.Cond.code x code maxLocals ret, Jvm.Cond.code ({ cls := "com/example/authzlint/authzlint/model/DataType", name := "hasTimeZones", desc := "()Z" } : Jvm.MethodName) prog_79_method_26_code (1 : Nat) (Option.some Jvm.ClassFile.FieldType.boolean)]
set_option maxRecDepth 65536 in
theorem codes_eq : words1.filter isCode = codes1 := rfl
theorem w_codes : ∀ c ∈ words1.filter isCode, c.before args0 about1 = true := by
  rw [codes_eq]
  intro c hc
  simp only [codes1, List.mem_cons, List.not_mem_nil, or_false] at hc
  rcases hc with rfl | rfl
  · exact w_c0
  · exact w_c1
set_option maxRecDepth 65536 in
theorem w_t1 : (words1.take 24).all (fun c => isCode c || c.before args0 about1) = true := by decide +kernel
set_option maxRecDepth 65536 in
theorem w_t2 : (words1.drop 24).all (fun c => isCode c || c.before args0 about1) = true := by decide +kernel
theorem w_tables : (allAtoms (Jvm.Cond.code x code maxLocals ret :: tables_1)).before args0 about1 = true := by
  rw [allAtoms_all]
  show words1.all (fun c => c.before args0 about1) = true
  refine all_split ?_ w_codes
  rw [← List.take_append_drop 24 words1, List.all_append, w_t1, w_t2]
  rfl
set_option maxRecDepth 65536 in
theorem w_case : (Jvm.Cond.and given_1 narrow_1).before args0 about1 = true := by decide +kernel
theorem w_applies : (headSpec (Jvm.Cond.code x code maxLocals ret :: tables_1) room_1).applies x e0.platform about1 = true :=
  (Spec.applies_iff w_frames).mpr ⟨w_running, w_runnable, w_alone, w_named, w_hears, w_ripe, w_room, w_tables⟩
theorem atStart : AtStart classFile x code maxLocals ret World_1 tables_1 room_1 Calls_1 rest_1 Pre_1 launch0 p0 e0 about1 theMethod args0 below0 :=
  ⟨lists_1, trivial, launch0.admits_env _ _ _, launch0.least_env, fairChoices_fair.cas, fairChoices_fair.clock, w_frames, w_args, w_heap, w_applies, trivial, trivial, w_case⟩
end start1
theorem witness_1 : WitnessClaimed_1 := ⟨start1.p0, start1.e0, start1.about1, start1.theMethod, start1.args0, start1.below0, start1.atStart⟩
end Jvm.Pilot.@@N@@
