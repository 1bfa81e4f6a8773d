import JvmDerived
import JvmDerived.Pilot.@@N@@Statement
import JvmDerived.Pilot.@@N@@Code
set_option linter.unusedVariables false
set_option linter.unusedSimpArgs false
namespace Jvm.RoadKit
open Sem ClassFile Op Lib Jvm.Stand Jvm.Free Jvm.LawKit
section New
variable {p : Program} {l : Launch} {e : Env} {R : Room} {s : State} {m : MethodId} {args : Array Value} {below : List Frame} {meth : Method} {c : Code} {T : State} {locs : List Loc} {cells slots : Nat}
theorem retI (X : Stand p l e R s m args below meth c T locs cells slots) (hx : p.tables.exec = Jvm.exec) {pc : Nat} {Ls : Array Slot} {z : Int32} {rest : List Value} (hret : meth.sig.returnType = some .int) (hd : decode c.code pc = .ok (.ireturn, 1)) {fs : List Frame}
    (hl : ∀ (f : JFrame) (acts : List Action), f.method = m → f.locked = none → f.entered = [] → (doReturn e (T.setTop f) acts (some (.int z))).1 = T.setFrames fs) : Steps p.tables e below (T.setTop (mkF m pc Ls (.int z :: rest))) (T.setFrames fs) := by
  have hm' : T.vm.method? m = some meth := X.method'
  have hn : narrow .int (.int z) = .int z := rfl
  show Steps p.tables e below (T.setTop { method := m, pc := pc, locals := Ls, stack := _ :: rest, locked := none }) _
  jvm_step X.here [X.here.top, hx, hd, hm', hret, hn]
  first | (intro acts; rw [hl _ acts rfl rfl rfl]) | rw [hl _ _ rfl rfl rfl]
  exact Steps.refl _
end New
end Jvm.RoadKit
namespace Jvm.Pilot.@@N@@
open Jvm Jvm.ClassFile Sem Op Lib Jvm.Free Jvm.Stand Jvm.LawKit Jvm.RoadKit Bundle Jvm.Pilot.@@N@@.Jvm.D
theorem ow {a0 : Array Value} {Z : State} (hw : ∀ d ∈ tables_1, d.before a0 Z = true) (i : Nat) {d : Jvm.Cond} (h : tables_1[i]? = some d) : d.before a0 Z = true := hw _ (List.mem_of_getElem? h)
abbrev rr0 : Room := { frames := 0, cells := 0, slots := 0, locals := 0 }
/-- a body that writes nothing and makes nothing: it returns r, the heap as it was -/
def QP (r : Option Value) (h0 : Heap) (n0 : Nat) (v : Option Value) (h : Heap) (L : List Loc) : Prop := v = r ∧ Fr n0 L ∧ h = h0
theorem own_fldI {Z : State} {args : Array Value} {t : Term} {C n d : String} {a : Addr} {k : Int32} (ev : t.eval args Z none [] Z = some (.ref a)) (h : (Jvm.Cond.eq (Term.field t C n d) (Term.int k)).value args Z none Z [] = some true) : Fld Z Z.heap a C n d (.int k) := by
  obtain ⟨x, y, e1, e2, k1, k2⟩ := cmp_v (Or.inl h)
  rw [Term.int_eval] at e2
  cases e2
  obtain ⟨z, rfl⟩ := k2
  have e3 : z = k := by simpa [Cond.value, e1, Term.int_eval] using h
  subst e3
  exact Fld.start ((fld_at ev).symm.trans e1)
theorem own_ne {Z : State} {h : Heap} {a b : Addr} {C n d : String} {v w : Value} (F : Fld Z h a C n d v) (G : Fld Z h b C n d w) (hn : v ≠ w) : ¬ (a = b) := by
  rintro rfl
  obtain ⟨c1, _, _, _, f1, h1, h2, -, -, -, -, h7⟩ := F
  obtain ⟨c2, _, _, _, f2, g1, g2, -, -, -, -, g7⟩ := G
  cases h1.symm.trans g1
  cases h2.symm.trans g2
  exact hn (Option.some.inj (h7.symm.trans g7))
theorem own_fldR {Z : State} {args : Array Value} {t u : Term} {C n d : String} {a b : Addr} (ev : t.eval args Z none [] Z = some (.ref a)) (ev2 : u.eval args Z none [] Z = some (.ref b)) (h : (Jvm.Cond.eq (Term.field t C n d) u).value args Z none Z [] = some true) : Fld Z Z.heap a C n d (.ref b) := by
  obtain ⟨x, y, e1, e2, k1, k2⟩ := cmp_v (Or.inl h)
  cases ev2.symm.trans e2
  have hx : x.isRef = true := k2.2
  have e3 : x = .ref b := gotT (eq_R e1 ev2 hx rfl) h
  subst e3
  exact Fld.start ((fld_at ev).symm.trans e1)
theorem own_fldN {Z : State} {args : Array Value} {t : Term} {C n d : String} {a : Addr} (ev : t.eval args Z none [] Z = some (.ref a)) (h : (Jvm.Cond.eq (Term.field t C n d) Term.null).value args Z none Z [] = some true) : Fld Z Z.heap a C n d .null := Fld.start ((fld_at ev).symm.trans (null_v h))
theorem own_mod15 (p : Int32) : (p &&& 2147483647) % 15 = 0 ∨ (p &&& 2147483647) % 15 = 1 ∨ (p &&& 2147483647) % 15 = 2 ∨ (p &&& 2147483647) % 15 = 3 ∨ (p &&& 2147483647) % 15 = 4 ∨ (p &&& 2147483647) % 15 = 5 ∨ (p &&& 2147483647) % 15 = 6 ∨ (p &&& 2147483647) % 15 = 7 ∨ (p &&& 2147483647) % 15 = 8 ∨ (p &&& 2147483647) % 15 = 9 ∨ (p &&& 2147483647) % 15 = 10 ∨ (p &&& 2147483647) % 15 = 11 ∨ (p &&& 2147483647) % 15 = 12 ∨ (p &&& 2147483647) % 15 = 13 ∨ (p &&& 2147483647) % 15 = 14 := by
  have h := c_mask p 2147483647 31 (by decide) (by decide)
  have h2 := (c_irem (p &&& 2147483647) 15 15 (by decide)).1 (by rw [h]; omega)
  have h3 : ((p &&& 2147483647) % 15).toInt = 0 ∨ ((p &&& 2147483647) % 15).toInt = 1 ∨ ((p &&& 2147483647) % 15).toInt = 2 ∨ ((p &&& 2147483647) % 15).toInt = 3 ∨ ((p &&& 2147483647) % 15).toInt = 4 ∨ ((p &&& 2147483647) % 15).toInt = 5 ∨ ((p &&& 2147483647) % 15).toInt = 6 ∨ ((p &&& 2147483647) % 15).toInt = 7 ∨ ((p &&& 2147483647) % 15).toInt = 8 ∨ ((p &&& 2147483647) % 15).toInt = 9 ∨ ((p &&& 2147483647) % 15).toInt = 10 ∨ ((p &&& 2147483647) % 15).toInt = 11 ∨ ((p &&& 2147483647) % 15).toInt = 12 ∨ ((p &&& 2147483647) % 15).toInt = 13 ∨ ((p &&& 2147483647) % 15).toInt = 14 := by omega
  rcases h3 with q | q | q | q | q | q | q | q | q | q | q | q | q | q | q
  · exact Or.inl (Int32.toInt_inj.mp q)
  · exact Or.inr (Or.inl (Int32.toInt_inj.mp q))
  · exact Or.inr (Or.inr (Or.inl (Int32.toInt_inj.mp q)))
  · exact Or.inr (Or.inr (Or.inr (Or.inl (Int32.toInt_inj.mp q))))
  · exact Or.inr (Or.inr (Or.inr (Or.inr (Or.inl (Int32.toInt_inj.mp q)))))
  · exact Or.inr (Or.inr (Or.inr (Or.inr (Or.inr (Or.inl (Int32.toInt_inj.mp q))))))
  · exact Or.inr (Or.inr (Or.inr (Or.inr (Or.inr (Or.inr (Or.inl (Int32.toInt_inj.mp q)))))))
  · exact Or.inr (Or.inr (Or.inr (Or.inr (Or.inr (Or.inr (Or.inr (Or.inl (Int32.toInt_inj.mp q))))))))
  · exact Or.inr (Or.inr (Or.inr (Or.inr (Or.inr (Or.inr (Or.inr (Or.inr (Or.inl (Int32.toInt_inj.mp q)))))))))
  · exact Or.inr (Or.inr (Or.inr (Or.inr (Or.inr (Or.inr (Or.inr (Or.inr (Or.inr (Or.inl (Int32.toInt_inj.mp q))))))))))
  · exact Or.inr (Or.inr (Or.inr (Or.inr (Or.inr (Or.inr (Or.inr (Or.inr (Or.inr (Or.inr (Or.inl (Int32.toInt_inj.mp q)))))))))))
  · exact Or.inr (Or.inr (Or.inr (Or.inr (Or.inr (Or.inr (Or.inr (Or.inr (Or.inr (Or.inr (Or.inr (Or.inl (Int32.toInt_inj.mp q))))))))))))
  · exact Or.inr (Or.inr (Or.inr (Or.inr (Or.inr (Or.inr (Or.inr (Or.inr (Or.inr (Or.inr (Or.inr (Or.inr (Or.inl (Int32.toInt_inj.mp q)))))))))))))
  · exact Or.inr (Or.inr (Or.inr (Or.inr (Or.inr (Or.inr (Or.inr (Or.inr (Or.inr (Or.inr (Or.inr (Or.inr (Or.inr (Or.inl (Int32.toInt_inj.mp q))))))))))))))
  · exact Or.inr (Or.inr (Or.inr (Or.inr (Or.inr (Or.inr (Or.inr (Or.inr (Or.inr (Or.inr (Or.inr (Or.inr (Or.inr (Or.inr (Int32.toInt_inj.mp q))))))))))))))
theorem d1_0 : decode method_2_code 0 = .ok (.iload_n 0, 1) := by decide +kernel
theorem d1_1 : decode method_2_code 1 = .ok (.ifCond .ne 7, 3) := by decide +kernel
theorem d1_4 : decode method_2_code 4 = .ok (.getstatic 7, 3) := by decide +kernel
theorem d1_7 : decode method_2_code 7 = .ok (.areturn, 1) := by decide +kernel
theorem pn_com_example_tabulon_tabulon_document_CellTypeHoldsNumberPinLaw : plainName "com/example/tabulon/tabulon/document/CellTypeHoldsNumberPinLaw" = true := by first | (simp [plainName, overriddenIn]; done) | decide +kernel
theorem ef_1 (m : MethodId) (x0 : Int32) : entryFrame m #[(.int x0)] 1 = mkF m 0 #[.val (.int x0)] [] := by first | (simp [entryFrame, mkF, argsToLocals, Value.category]; done) | rfl
abbrev nm_1 : MethodName := ⟨"com/example/tabulon/tabulon/document/CellTypeHoldsNumberPinLaw", "pick", "(I)Lcom/example/tabulon/tabulon/document/CellType;"⟩
set_option maxRecDepth 65536 in
set_option maxHeartbeats 40000000 in
theorem rm1_0 (l : Launch) (Z : State) (a0 : Array Value) (hw : ∀ d ∈ tables_1, d.before a0 Z = true) (ws : List Jvm.Cond) (p1 : Int32) (w : Addr) (h0 : Heap) (n0 : Nat) (Z0 : n0 ≤ h0.size) (S : Sta Z h0 "com/example/tabulon/tabulon/document/CellType" "NUMERIC" "Lcom/example/tabulon/tabulon/document/CellType;" (.ref w)) (hc1 : p1 = (0 : Int32)) :
    MetFree l nm_1 (head1 (Jvm.Cond.code nm_1 method_2_code 1 (some (.object "com/example/tabulon/tabulon/document/CellType")) :: ws) rr0) (fun aa U => aa = #[(.int p1)] ∧ Z.Warmed39 U.vm ∧ U.heap = h0) (fun _ _ _ _ _ => True) (fun _ U o U' => ∃ v L, o = .returned v ∧ QP (some (.ref w)) h0 n0 v U'.heap L ∧ FrameEnd U o U' L rr0.cells rr0.slots) := by
  refine MetFree.of_bodySF (plainFor_of_name pn_com_example_tabulon_tabulon_document_CellTypeHoldsNumberPinLaw) hisR ?_
  intro p e s m args below meth c s₁ Bd hml0 hP hK
  obtain ⟨rfl, hZ, hh⟩ := hP
  have hx := Bd.exec
  have hby := Bd.bytes
  have hml : c.maxLocals = 1 := hml0
  have hown : s.vm.findClass "com/example/tabulon/tabulon/document/CellTypeHoldsNumberPinLaw" = some m.cls := findClass_of_methodNamed Bd.named
  have hnm := (name_of_methodNamed Bd.named Bd.method).1
  have X0 : Stand p l e rr0 s m #[(.int p1)] below meth c s₁ [] 0 0 := Stand.of_body Bd
  have e0 : s₁.heap = h0 := by rw [← hh, Bd.state]; rfl
  have N0 := Fr.nil n0
  have pre0 : ∀ t, Steps p.tables e below (s₁.setTop (mkF m 0 #[.val (.int p1)] [])) t → Steps p.tables e below (s₁.setTop (entryFrame m #[(.int p1)] 1)) t := fun t k => castTop (ef_1 m p1) k
  obtain ⟨T1, X1, e1, st1⟩ := getS2 X0 hx hZ hown (host := "") (Or.inl (ow hw 5 rfl)) Via.refl e0 S (g := (mkF m 4 #[.val (.int p1)] [])) rfl (hb hby d1_4)
  obtain ⟨fs, hr, hrun, hended, hW, hsame⟩ := X1.leave (v := some (.ref w)) (fun h => by rw [Bd.returns] at h; cases h)
  refine ⟨_, _, pre0 _ ?_, hrun, hended, _, _, rfl, ?_, ⟨_, rfl⟩, hW, hsame.mono (by decide) (by decide)⟩
  · show Steps p.tables e below (s₁.setTop (mkF m 0 #[.val (.int p1)] [])) _
    refine XS.iloadN X0.here hx rfl (hb hby d1_0) rfl ?_
    show Steps p.tables e below (s₁.setTop (mkF m 1 #[.val (.int p1)] [(.int p1)])) _
    refine XS.ifNo X0.here hx rfl (hb hby d1_1) rfl ((if0 _ _).trans (teq hc1).2) ?_
    show Steps p.tables e below (s₁.setTop (mkF m 4 #[.val (.int p1)] [])) _
    refine st1 _ ?_
    show Steps p.tables e below (T1.setTop (mkF m 7 #[.val (.int p1)] [(.ref w)])) _
    exact retOut X1 hx Bd.returns rfl (Or.inr (Or.inr (Or.inr (Or.inr ⟨rfl, rfl, rfl⟩)))) (hb hby d1_7) hr
  · show QP (some (.ref w)) h0 n0 _ T1.heap _
    rw [e1]
    exact ⟨rfl, N0, rfl⟩
theorem d1_8 : decode method_2_code 8 = .ok (.iload_n 0, 1) := by decide +kernel
theorem d1_9 : decode method_2_code 9 = .ok (.iconst 1, 1) := by decide +kernel
theorem d1_10 : decode method_2_code 10 = .ok (.if_icmp .ne 7, 3) := by decide +kernel
theorem d1_13 : decode method_2_code 13 = .ok (.getstatic 13, 3) := by decide +kernel
theorem d1_16 : decode method_2_code 16 = .ok (.areturn, 1) := by decide +kernel
set_option maxRecDepth 65536 in
set_option maxHeartbeats 40000000 in
theorem rm1_1 (l : Launch) (Z : State) (a0 : Array Value) (hw : ∀ d ∈ tables_1, d.before a0 Z = true) (ws : List Jvm.Cond) (p1 : Int32) (w : Addr) (h0 : Heap) (n0 : Nat) (Z0 : n0 ≤ h0.size) (S : Sta Z h0 "com/example/tabulon/tabulon/document/CellType" "TEXT" "Lcom/example/tabulon/tabulon/document/CellType;" (.ref w)) (hc1 : ¬ (p1 = (0 : Int32))) (hc10 : p1 = (1 : Int32)) :
    MetFree l nm_1 (head1 (Jvm.Cond.code nm_1 method_2_code 1 (some (.object "com/example/tabulon/tabulon/document/CellType")) :: ws) rr0) (fun aa U => aa = #[(.int p1)] ∧ Z.Warmed39 U.vm ∧ U.heap = h0) (fun _ _ _ _ _ => True) (fun _ U o U' => ∃ v L, o = .returned v ∧ QP (some (.ref w)) h0 n0 v U'.heap L ∧ FrameEnd U o U' L rr0.cells rr0.slots) := by
  refine MetFree.of_bodySF (plainFor_of_name pn_com_example_tabulon_tabulon_document_CellTypeHoldsNumberPinLaw) hisR ?_
  intro p e s m args below meth c s₁ Bd hml0 hP hK
  obtain ⟨rfl, hZ, hh⟩ := hP
  have hx := Bd.exec
  have hby := Bd.bytes
  have hml : c.maxLocals = 1 := hml0
  have hown : s.vm.findClass "com/example/tabulon/tabulon/document/CellTypeHoldsNumberPinLaw" = some m.cls := findClass_of_methodNamed Bd.named
  have hnm := (name_of_methodNamed Bd.named Bd.method).1
  have X0 : Stand p l e rr0 s m #[(.int p1)] below meth c s₁ [] 0 0 := Stand.of_body Bd
  have e0 : s₁.heap = h0 := by rw [← hh, Bd.state]; rfl
  have N0 := Fr.nil n0
  have pre0 : ∀ t, Steps p.tables e below (s₁.setTop (mkF m 0 #[.val (.int p1)] [])) t → Steps p.tables e below (s₁.setTop (entryFrame m #[(.int p1)] 1)) t := fun t k => castTop (ef_1 m p1) k
  obtain ⟨T1, X1, e1, st1⟩ := getS2 X0 hx hZ hown (host := "") (Or.inl (ow hw 45 rfl)) Via.refl e0 S (g := (mkF m 13 #[.val (.int p1)] [])) rfl (hb hby d1_13)
  obtain ⟨fs, hr, hrun, hended, hW, hsame⟩ := X1.leave (v := some (.ref w)) (fun h => by rw [Bd.returns] at h; cases h)
  refine ⟨_, _, pre0 _ ?_, hrun, hended, _, _, rfl, ?_, ⟨_, rfl⟩, hW, hsame.mono (by decide) (by decide)⟩
  · show Steps p.tables e below (s₁.setTop (mkF m 0 #[.val (.int p1)] [])) _
    refine XS.iloadN X0.here hx rfl (hb hby d1_0) rfl ?_
    show Steps p.tables e below (s₁.setTop (mkF m 1 #[.val (.int p1)] [(.int p1)])) _
    refine XS.ifYes X0.here hx rfl (pc0 := 1) (pc' := 8) rfl (hb hby d1_1) rfl ((if0 _ _).trans (feq hc1).2) (by decide) (by decide) ?_
    show Steps p.tables e below (s₁.setTop (mkF m 8 #[.val (.int p1)] [])) _
    refine XS.iloadN X0.here hx rfl (hb hby d1_8) rfl ?_
    show Steps p.tables e below (s₁.setTop (mkF m 9 #[.val (.int p1)] [(.int p1)])) _
    refine XS.iconst X0.here hx rfl (hb hby d1_9) ?_
    show Steps p.tables e below (s₁.setTop (mkF m 10 #[.val (.int p1)] [(.int (1 : Int32)), (.int p1)])) _
    refine XS.icmpNo X0.here hx rfl (hb hby d1_10) rfl (teq hc10).2 ?_
    show Steps p.tables e below (s₁.setTop (mkF m 13 #[.val (.int p1)] [])) _
    refine st1 _ ?_
    show Steps p.tables e below (T1.setTop (mkF m 16 #[.val (.int p1)] [(.ref w)])) _
    exact retOut X1 hx Bd.returns rfl (Or.inr (Or.inr (Or.inr (Or.inr ⟨rfl, rfl, rfl⟩)))) (hb hby d1_16) hr
  · show QP (some (.ref w)) h0 n0 _ T1.heap _
    rw [e1]
    exact ⟨rfl, N0, rfl⟩
theorem d1_17 : decode method_2_code 17 = .ok (.iload_n 0, 1) := by decide +kernel
theorem d1_18 : decode method_2_code 18 = .ok (.iconst 2, 1) := by decide +kernel
theorem d1_19 : decode method_2_code 19 = .ok (.if_icmp .ne 7, 3) := by decide +kernel
theorem d1_22 : decode method_2_code 22 = .ok (.getstatic 16, 3) := by decide +kernel
theorem d1_25 : decode method_2_code 25 = .ok (.areturn, 1) := by decide +kernel
set_option maxRecDepth 65536 in
set_option maxHeartbeats 40000000 in
theorem rm1_2 (l : Launch) (Z : State) (a0 : Array Value) (hw : ∀ d ∈ tables_1, d.before a0 Z = true) (ws : List Jvm.Cond) (p1 : Int32) (w : Addr) (h0 : Heap) (n0 : Nat) (Z0 : n0 ≤ h0.size) (S : Sta Z h0 "com/example/tabulon/tabulon/document/CellType" "BOOL" "Lcom/example/tabulon/tabulon/document/CellType;" (.ref w)) (hc1 : ¬ (p1 = (0 : Int32))) (hc10 : ¬ (p1 = (1 : Int32))) (hc19 : p1 = (2 : Int32)) :
    MetFree l nm_1 (head1 (Jvm.Cond.code nm_1 method_2_code 1 (some (.object "com/example/tabulon/tabulon/document/CellType")) :: ws) rr0) (fun aa U => aa = #[(.int p1)] ∧ Z.Warmed39 U.vm ∧ U.heap = h0) (fun _ _ _ _ _ => True) (fun _ U o U' => ∃ v L, o = .returned v ∧ QP (some (.ref w)) h0 n0 v U'.heap L ∧ FrameEnd U o U' L rr0.cells rr0.slots) := by
  refine MetFree.of_bodySF (plainFor_of_name pn_com_example_tabulon_tabulon_document_CellTypeHoldsNumberPinLaw) hisR ?_
  intro p e s m args below meth c s₁ Bd hml0 hP hK
  obtain ⟨rfl, hZ, hh⟩ := hP
  have hx := Bd.exec
  have hby := Bd.bytes
  have hml : c.maxLocals = 1 := hml0
  have hown : s.vm.findClass "com/example/tabulon/tabulon/document/CellTypeHoldsNumberPinLaw" = some m.cls := findClass_of_methodNamed Bd.named
  have hnm := (name_of_methodNamed Bd.named Bd.method).1
  have X0 : Stand p l e rr0 s m #[(.int p1)] below meth c s₁ [] 0 0 := Stand.of_body Bd
  have e0 : s₁.heap = h0 := by rw [← hh, Bd.state]; rfl
  have N0 := Fr.nil n0
  have pre0 : ∀ t, Steps p.tables e below (s₁.setTop (mkF m 0 #[.val (.int p1)] [])) t → Steps p.tables e below (s₁.setTop (entryFrame m #[(.int p1)] 1)) t := fun t k => castTop (ef_1 m p1) k
  obtain ⟨T1, X1, e1, st1⟩ := getS2 X0 hx hZ hown (host := "") (Or.inl (ow hw 38 rfl)) Via.refl e0 S (g := (mkF m 22 #[.val (.int p1)] [])) rfl (hb hby d1_22)
  obtain ⟨fs, hr, hrun, hended, hW, hsame⟩ := X1.leave (v := some (.ref w)) (fun h => by rw [Bd.returns] at h; cases h)
  refine ⟨_, _, pre0 _ ?_, hrun, hended, _, _, rfl, ?_, ⟨_, rfl⟩, hW, hsame.mono (by decide) (by decide)⟩
  · show Steps p.tables e below (s₁.setTop (mkF m 0 #[.val (.int p1)] [])) _
    refine XS.iloadN X0.here hx rfl (hb hby d1_0) rfl ?_
    show Steps p.tables e below (s₁.setTop (mkF m 1 #[.val (.int p1)] [(.int p1)])) _
    refine XS.ifYes X0.here hx rfl (pc0 := 1) (pc' := 8) rfl (hb hby d1_1) rfl ((if0 _ _).trans (feq hc1).2) (by decide) (by decide) ?_
    show Steps p.tables e below (s₁.setTop (mkF m 8 #[.val (.int p1)] [])) _
    refine XS.iloadN X0.here hx rfl (hb hby d1_8) rfl ?_
    show Steps p.tables e below (s₁.setTop (mkF m 9 #[.val (.int p1)] [(.int p1)])) _
    refine XS.iconst X0.here hx rfl (hb hby d1_9) ?_
    show Steps p.tables e below (s₁.setTop (mkF m 10 #[.val (.int p1)] [(.int (1 : Int32)), (.int p1)])) _
    refine XS.icmpYes X0.here hx rfl (pc0 := 10) (pc' := 17) rfl (hb hby d1_10) rfl (feq hc10).2 (by decide) (by decide) ?_
    show Steps p.tables e below (s₁.setTop (mkF m 17 #[.val (.int p1)] [])) _
    refine XS.iloadN X0.here hx rfl (hb hby d1_17) rfl ?_
    show Steps p.tables e below (s₁.setTop (mkF m 18 #[.val (.int p1)] [(.int p1)])) _
    refine XS.iconst X0.here hx rfl (hb hby d1_18) ?_
    show Steps p.tables e below (s₁.setTop (mkF m 19 #[.val (.int p1)] [(.int (2 : Int32)), (.int p1)])) _
    refine XS.icmpNo X0.here hx rfl (hb hby d1_19) rfl (teq hc19).2 ?_
    show Steps p.tables e below (s₁.setTop (mkF m 22 #[.val (.int p1)] [])) _
    refine st1 _ ?_
    show Steps p.tables e below (T1.setTop (mkF m 25 #[.val (.int p1)] [(.ref w)])) _
    exact retOut X1 hx Bd.returns rfl (Or.inr (Or.inr (Or.inr (Or.inr ⟨rfl, rfl, rfl⟩)))) (hb hby d1_25) hr
  · show QP (some (.ref w)) h0 n0 _ T1.heap _
    rw [e1]
    exact ⟨rfl, N0, rfl⟩
theorem d1_26 : decode method_2_code 26 = .ok (.iload_n 0, 1) := by decide +kernel
theorem d1_27 : decode method_2_code 27 = .ok (.iconst 3, 1) := by decide +kernel
theorem d1_28 : decode method_2_code 28 = .ok (.if_icmp .ne 7, 3) := by decide +kernel
theorem d1_31 : decode method_2_code 31 = .ok (.getstatic 19, 3) := by decide +kernel
theorem d1_34 : decode method_2_code 34 = .ok (.areturn, 1) := by decide +kernel
set_option maxRecDepth 65536 in
set_option maxHeartbeats 40000000 in
theorem rm1_3 (l : Launch) (Z : State) (a0 : Array Value) (hw : ∀ d ∈ tables_1, d.before a0 Z = true) (ws : List Jvm.Cond) (p1 : Int32) (w : Addr) (h0 : Heap) (n0 : Nat) (Z0 : n0 ≤ h0.size) (S : Sta Z h0 "com/example/tabulon/tabulon/document/CellType" "NULL" "Lcom/example/tabulon/tabulon/document/CellType;" (.ref w)) (hc1 : ¬ (p1 = (0 : Int32))) (hc10 : ¬ (p1 = (1 : Int32))) (hc19 : ¬ (p1 = (2 : Int32))) (hc28 : p1 = (3 : Int32)) :
    MetFree l nm_1 (head1 (Jvm.Cond.code nm_1 method_2_code 1 (some (.object "com/example/tabulon/tabulon/document/CellType")) :: ws) rr0) (fun aa U => aa = #[(.int p1)] ∧ Z.Warmed39 U.vm ∧ U.heap = h0) (fun _ _ _ _ _ => True) (fun _ U o U' => ∃ v L, o = .returned v ∧ QP (some (.ref w)) h0 n0 v U'.heap L ∧ FrameEnd U o U' L rr0.cells rr0.slots) := by
  refine MetFree.of_bodySF (plainFor_of_name pn_com_example_tabulon_tabulon_document_CellTypeHoldsNumberPinLaw) hisR ?_
  intro p e s m args below meth c s₁ Bd hml0 hP hK
  obtain ⟨rfl, hZ, hh⟩ := hP
  have hx := Bd.exec
  have hby := Bd.bytes
  have hml : c.maxLocals = 1 := hml0
  have hown : s.vm.findClass "com/example/tabulon/tabulon/document/CellTypeHoldsNumberPinLaw" = some m.cls := findClass_of_methodNamed Bd.named
  have hnm := (name_of_methodNamed Bd.named Bd.method).1
  have X0 : Stand p l e rr0 s m #[(.int p1)] below meth c s₁ [] 0 0 := Stand.of_body Bd
  have e0 : s₁.heap = h0 := by rw [← hh, Bd.state]; rfl
  have N0 := Fr.nil n0
  have pre0 : ∀ t, Steps p.tables e below (s₁.setTop (mkF m 0 #[.val (.int p1)] [])) t → Steps p.tables e below (s₁.setTop (entryFrame m #[(.int p1)] 1)) t := fun t k => castTop (ef_1 m p1) k
  obtain ⟨T1, X1, e1, st1⟩ := getS2 X0 hx hZ hown (host := "") (Or.inl (ow hw 21 rfl)) Via.refl e0 S (g := (mkF m 31 #[.val (.int p1)] [])) rfl (hb hby d1_31)
  obtain ⟨fs, hr, hrun, hended, hW, hsame⟩ := X1.leave (v := some (.ref w)) (fun h => by rw [Bd.returns] at h; cases h)
  refine ⟨_, _, pre0 _ ?_, hrun, hended, _, _, rfl, ?_, ⟨_, rfl⟩, hW, hsame.mono (by decide) (by decide)⟩
  · show Steps p.tables e below (s₁.setTop (mkF m 0 #[.val (.int p1)] [])) _
    refine XS.iloadN X0.here hx rfl (hb hby d1_0) rfl ?_
    show Steps p.tables e below (s₁.setTop (mkF m 1 #[.val (.int p1)] [(.int p1)])) _
    refine XS.ifYes X0.here hx rfl (pc0 := 1) (pc' := 8) rfl (hb hby d1_1) rfl ((if0 _ _).trans (feq hc1).2) (by decide) (by decide) ?_
    show Steps p.tables e below (s₁.setTop (mkF m 8 #[.val (.int p1)] [])) _
    refine XS.iloadN X0.here hx rfl (hb hby d1_8) rfl ?_
    show Steps p.tables e below (s₁.setTop (mkF m 9 #[.val (.int p1)] [(.int p1)])) _
    refine XS.iconst X0.here hx rfl (hb hby d1_9) ?_
    show Steps p.tables e below (s₁.setTop (mkF m 10 #[.val (.int p1)] [(.int (1 : Int32)), (.int p1)])) _
    refine XS.icmpYes X0.here hx rfl (pc0 := 10) (pc' := 17) rfl (hb hby d1_10) rfl (feq hc10).2 (by decide) (by decide) ?_
    show Steps p.tables e below (s₁.setTop (mkF m 17 #[.val (.int p1)] [])) _
    refine XS.iloadN X0.here hx rfl (hb hby d1_17) rfl ?_
    show Steps p.tables e below (s₁.setTop (mkF m 18 #[.val (.int p1)] [(.int p1)])) _
    refine XS.iconst X0.here hx rfl (hb hby d1_18) ?_
    show Steps p.tables e below (s₁.setTop (mkF m 19 #[.val (.int p1)] [(.int (2 : Int32)), (.int p1)])) _
    refine XS.icmpYes X0.here hx rfl (pc0 := 19) (pc' := 26) rfl (hb hby d1_19) rfl (feq hc19).2 (by decide) (by decide) ?_
    show Steps p.tables e below (s₁.setTop (mkF m 26 #[.val (.int p1)] [])) _
    refine XS.iloadN X0.here hx rfl (hb hby d1_26) rfl ?_
    show Steps p.tables e below (s₁.setTop (mkF m 27 #[.val (.int p1)] [(.int p1)])) _
    refine XS.iconst X0.here hx rfl (hb hby d1_27) ?_
    show Steps p.tables e below (s₁.setTop (mkF m 28 #[.val (.int p1)] [(.int (3 : Int32)), (.int p1)])) _
    refine XS.icmpNo X0.here hx rfl (hb hby d1_28) rfl (teq hc28).2 ?_
    show Steps p.tables e below (s₁.setTop (mkF m 31 #[.val (.int p1)] [])) _
    refine st1 _ ?_
    show Steps p.tables e below (T1.setTop (mkF m 34 #[.val (.int p1)] [(.ref w)])) _
    exact retOut X1 hx Bd.returns rfl (Or.inr (Or.inr (Or.inr (Or.inr ⟨rfl, rfl, rfl⟩)))) (hb hby d1_34) hr
  · show QP (some (.ref w)) h0 n0 _ T1.heap _
    rw [e1]
    exact ⟨rfl, N0, rfl⟩
theorem d1_35 : decode method_2_code 35 = .ok (.iload_n 0, 1) := by decide +kernel
theorem d1_36 : decode method_2_code 36 = .ok (.iconst 4, 1) := by decide +kernel
theorem d1_37 : decode method_2_code 37 = .ok (.if_icmp .ne 7, 3) := by decide +kernel
theorem d1_40 : decode method_2_code 40 = .ok (.getstatic 22, 3) := by decide +kernel
theorem d1_43 : decode method_2_code 43 = .ok (.areturn, 1) := by decide +kernel
set_option maxRecDepth 65536 in
set_option maxHeartbeats 40000000 in
theorem rm1_4 (l : Launch) (Z : State) (a0 : Array Value) (hw : ∀ d ∈ tables_1, d.before a0 Z = true) (ws : List Jvm.Cond) (p1 : Int32) (w : Addr) (h0 : Heap) (n0 : Nat) (Z0 : n0 ≤ h0.size) (S : Sta Z h0 "com/example/tabulon/tabulon/document/CellType" "INT" "Lcom/example/tabulon/tabulon/document/CellType;" (.ref w)) (hc1 : ¬ (p1 = (0 : Int32))) (hc10 : ¬ (p1 = (1 : Int32))) (hc19 : ¬ (p1 = (2 : Int32))) (hc28 : ¬ (p1 = (3 : Int32))) (hc37 : p1 = (4 : Int32)) :
    MetFree l nm_1 (head1 (Jvm.Cond.code nm_1 method_2_code 1 (some (.object "com/example/tabulon/tabulon/document/CellType")) :: ws) rr0) (fun aa U => aa = #[(.int p1)] ∧ Z.Warmed39 U.vm ∧ U.heap = h0) (fun _ _ _ _ _ => True) (fun _ U o U' => ∃ v L, o = .returned v ∧ QP (some (.ref w)) h0 n0 v U'.heap L ∧ FrameEnd U o U' L rr0.cells rr0.slots) := by
  refine MetFree.of_bodySF (plainFor_of_name pn_com_example_tabulon_tabulon_document_CellTypeHoldsNumberPinLaw) hisR ?_
  intro p e s m args below meth c s₁ Bd hml0 hP hK
  obtain ⟨rfl, hZ, hh⟩ := hP
  have hx := Bd.exec
  have hby := Bd.bytes
  have hml : c.maxLocals = 1 := hml0
  have hown : s.vm.findClass "com/example/tabulon/tabulon/document/CellTypeHoldsNumberPinLaw" = some m.cls := findClass_of_methodNamed Bd.named
  have hnm := (name_of_methodNamed Bd.named Bd.method).1
  have X0 : Stand p l e rr0 s m #[(.int p1)] below meth c s₁ [] 0 0 := Stand.of_body Bd
  have e0 : s₁.heap = h0 := by rw [← hh, Bd.state]; rfl
  have N0 := Fr.nil n0
  have pre0 : ∀ t, Steps p.tables e below (s₁.setTop (mkF m 0 #[.val (.int p1)] [])) t → Steps p.tables e below (s₁.setTop (entryFrame m #[(.int p1)] 1)) t := fun t k => castTop (ef_1 m p1) k
  obtain ⟨T1, X1, e1, st1⟩ := getS2 X0 hx hZ hown (host := "") (Or.inl (ow hw 24 rfl)) Via.refl e0 S (g := (mkF m 40 #[.val (.int p1)] [])) rfl (hb hby d1_40)
  obtain ⟨fs, hr, hrun, hended, hW, hsame⟩ := X1.leave (v := some (.ref w)) (fun h => by rw [Bd.returns] at h; cases h)
  refine ⟨_, _, pre0 _ ?_, hrun, hended, _, _, rfl, ?_, ⟨_, rfl⟩, hW, hsame.mono (by decide) (by decide)⟩
  · show Steps p.tables e below (s₁.setTop (mkF m 0 #[.val (.int p1)] [])) _
    refine XS.iloadN X0.here hx rfl (hb hby d1_0) rfl ?_
    show Steps p.tables e below (s₁.setTop (mkF m 1 #[.val (.int p1)] [(.int p1)])) _
    refine XS.ifYes X0.here hx rfl (pc0 := 1) (pc' := 8) rfl (hb hby d1_1) rfl ((if0 _ _).trans (feq hc1).2) (by decide) (by decide) ?_
    show Steps p.tables e below (s₁.setTop (mkF m 8 #[.val (.int p1)] [])) _
    refine XS.iloadN X0.here hx rfl (hb hby d1_8) rfl ?_
    show Steps p.tables e below (s₁.setTop (mkF m 9 #[.val (.int p1)] [(.int p1)])) _
    refine XS.iconst X0.here hx rfl (hb hby d1_9) ?_
    show Steps p.tables e below (s₁.setTop (mkF m 10 #[.val (.int p1)] [(.int (1 : Int32)), (.int p1)])) _
    refine XS.icmpYes X0.here hx rfl (pc0 := 10) (pc' := 17) rfl (hb hby d1_10) rfl (feq hc10).2 (by decide) (by decide) ?_
    show Steps p.tables e below (s₁.setTop (mkF m 17 #[.val (.int p1)] [])) _
    refine XS.iloadN X0.here hx rfl (hb hby d1_17) rfl ?_
    show Steps p.tables e below (s₁.setTop (mkF m 18 #[.val (.int p1)] [(.int p1)])) _
    refine XS.iconst X0.here hx rfl (hb hby d1_18) ?_
    show Steps p.tables e below (s₁.setTop (mkF m 19 #[.val (.int p1)] [(.int (2 : Int32)), (.int p1)])) _
    refine XS.icmpYes X0.here hx rfl (pc0 := 19) (pc' := 26) rfl (hb hby d1_19) rfl (feq hc19).2 (by decide) (by decide) ?_
    show Steps p.tables e below (s₁.setTop (mkF m 26 #[.val (.int p1)] [])) _
    refine XS.iloadN X0.here hx rfl (hb hby d1_26) rfl ?_
    show Steps p.tables e below (s₁.setTop (mkF m 27 #[.val (.int p1)] [(.int p1)])) _
    refine XS.iconst X0.here hx rfl (hb hby d1_27) ?_
    show Steps p.tables e below (s₁.setTop (mkF m 28 #[.val (.int p1)] [(.int (3 : Int32)), (.int p1)])) _
    refine XS.icmpYes X0.here hx rfl (pc0 := 28) (pc' := 35) rfl (hb hby d1_28) rfl (feq hc28).2 (by decide) (by decide) ?_
    show Steps p.tables e below (s₁.setTop (mkF m 35 #[.val (.int p1)] [])) _
    refine XS.iloadN X0.here hx rfl (hb hby d1_35) rfl ?_
    show Steps p.tables e below (s₁.setTop (mkF m 36 #[.val (.int p1)] [(.int p1)])) _
    refine XS.iconst X0.here hx rfl (hb hby d1_36) ?_
    show Steps p.tables e below (s₁.setTop (mkF m 37 #[.val (.int p1)] [(.int (4 : Int32)), (.int p1)])) _
    refine XS.icmpNo X0.here hx rfl (hb hby d1_37) rfl (teq hc37).2 ?_
    show Steps p.tables e below (s₁.setTop (mkF m 40 #[.val (.int p1)] [])) _
    refine st1 _ ?_
    show Steps p.tables e below (T1.setTop (mkF m 43 #[.val (.int p1)] [(.ref w)])) _
    exact retOut X1 hx Bd.returns rfl (Or.inr (Or.inr (Or.inr (Or.inr ⟨rfl, rfl, rfl⟩)))) (hb hby d1_43) hr
  · show QP (some (.ref w)) h0 n0 _ T1.heap _
    rw [e1]
    exact ⟨rfl, N0, rfl⟩
theorem d1_44 : decode method_2_code 44 = .ok (.iload_n 0, 1) := by decide +kernel
theorem d1_45 : decode method_2_code 45 = .ok (.iconst 5, 1) := by decide +kernel
theorem d1_46 : decode method_2_code 46 = .ok (.if_icmp .ne 7, 3) := by decide +kernel
theorem d1_49 : decode method_2_code 49 = .ok (.getstatic 25, 3) := by decide +kernel
theorem d1_52 : decode method_2_code 52 = .ok (.areturn, 1) := by decide +kernel
set_option maxRecDepth 65536 in
set_option maxHeartbeats 40000000 in
theorem rm1_5 (l : Launch) (Z : State) (a0 : Array Value) (hw : ∀ d ∈ tables_1, d.before a0 Z = true) (ws : List Jvm.Cond) (p1 : Int32) (w : Addr) (h0 : Heap) (n0 : Nat) (Z0 : n0 ≤ h0.size) (S : Sta Z h0 "com/example/tabulon/tabulon/document/CellType" "DATE" "Lcom/example/tabulon/tabulon/document/CellType;" (.ref w)) (hc1 : ¬ (p1 = (0 : Int32))) (hc10 : ¬ (p1 = (1 : Int32))) (hc19 : ¬ (p1 = (2 : Int32))) (hc28 : ¬ (p1 = (3 : Int32))) (hc37 : ¬ (p1 = (4 : Int32))) (hc46 : p1 = (5 : Int32)) :
    MetFree l nm_1 (head1 (Jvm.Cond.code nm_1 method_2_code 1 (some (.object "com/example/tabulon/tabulon/document/CellType")) :: ws) rr0) (fun aa U => aa = #[(.int p1)] ∧ Z.Warmed39 U.vm ∧ U.heap = h0) (fun _ _ _ _ _ => True) (fun _ U o U' => ∃ v L, o = .returned v ∧ QP (some (.ref w)) h0 n0 v U'.heap L ∧ FrameEnd U o U' L rr0.cells rr0.slots) := by
  refine MetFree.of_bodySF (plainFor_of_name pn_com_example_tabulon_tabulon_document_CellTypeHoldsNumberPinLaw) hisR ?_
  intro p e s m args below meth c s₁ Bd hml0 hP hK
  obtain ⟨rfl, hZ, hh⟩ := hP
  have hx := Bd.exec
  have hby := Bd.bytes
  have hml : c.maxLocals = 1 := hml0
  have hown : s.vm.findClass "com/example/tabulon/tabulon/document/CellTypeHoldsNumberPinLaw" = some m.cls := findClass_of_methodNamed Bd.named
  have hnm := (name_of_methodNamed Bd.named Bd.method).1
  have X0 : Stand p l e rr0 s m #[(.int p1)] below meth c s₁ [] 0 0 := Stand.of_body Bd
  have e0 : s₁.heap = h0 := by rw [← hh, Bd.state]; rfl
  have N0 := Fr.nil n0
  have pre0 : ∀ t, Steps p.tables e below (s₁.setTop (mkF m 0 #[.val (.int p1)] [])) t → Steps p.tables e below (s₁.setTop (entryFrame m #[(.int p1)] 1)) t := fun t k => castTop (ef_1 m p1) k
  obtain ⟨T1, X1, e1, st1⟩ := getS2 X0 hx hZ hown (host := "") (Or.inl (ow hw 26 rfl)) Via.refl e0 S (g := (mkF m 49 #[.val (.int p1)] [])) rfl (hb hby d1_49)
  obtain ⟨fs, hr, hrun, hended, hW, hsame⟩ := X1.leave (v := some (.ref w)) (fun h => by rw [Bd.returns] at h; cases h)
  refine ⟨_, _, pre0 _ ?_, hrun, hended, _, _, rfl, ?_, ⟨_, rfl⟩, hW, hsame.mono (by decide) (by decide)⟩
  · show Steps p.tables e below (s₁.setTop (mkF m 0 #[.val (.int p1)] [])) _
    refine XS.iloadN X0.here hx rfl (hb hby d1_0) rfl ?_
    show Steps p.tables e below (s₁.setTop (mkF m 1 #[.val (.int p1)] [(.int p1)])) _
    refine XS.ifYes X0.here hx rfl (pc0 := 1) (pc' := 8) rfl (hb hby d1_1) rfl ((if0 _ _).trans (feq hc1).2) (by decide) (by decide) ?_
    show Steps p.tables e below (s₁.setTop (mkF m 8 #[.val (.int p1)] [])) _
    refine XS.iloadN X0.here hx rfl (hb hby d1_8) rfl ?_
    show Steps p.tables e below (s₁.setTop (mkF m 9 #[.val (.int p1)] [(.int p1)])) _
    refine XS.iconst X0.here hx rfl (hb hby d1_9) ?_
    show Steps p.tables e below (s₁.setTop (mkF m 10 #[.val (.int p1)] [(.int (1 : Int32)), (.int p1)])) _
    refine XS.icmpYes X0.here hx rfl (pc0 := 10) (pc' := 17) rfl (hb hby d1_10) rfl (feq hc10).2 (by decide) (by decide) ?_
    show Steps p.tables e below (s₁.setTop (mkF m 17 #[.val (.int p1)] [])) _
    refine XS.iloadN X0.here hx rfl (hb hby d1_17) rfl ?_
    show Steps p.tables e below (s₁.setTop (mkF m 18 #[.val (.int p1)] [(.int p1)])) _
    refine XS.iconst X0.here hx rfl (hb hby d1_18) ?_
    show Steps p.tables e below (s₁.setTop (mkF m 19 #[.val (.int p1)] [(.int (2 : Int32)), (.int p1)])) _
    refine XS.icmpYes X0.here hx rfl (pc0 := 19) (pc' := 26) rfl (hb hby d1_19) rfl (feq hc19).2 (by decide) (by decide) ?_
    show Steps p.tables e below (s₁.setTop (mkF m 26 #[.val (.int p1)] [])) _
    refine XS.iloadN X0.here hx rfl (hb hby d1_26) rfl ?_
    show Steps p.tables e below (s₁.setTop (mkF m 27 #[.val (.int p1)] [(.int p1)])) _
    refine XS.iconst X0.here hx rfl (hb hby d1_27) ?_
    show Steps p.tables e below (s₁.setTop (mkF m 28 #[.val (.int p1)] [(.int (3 : Int32)), (.int p1)])) _
    refine XS.icmpYes X0.here hx rfl (pc0 := 28) (pc' := 35) rfl (hb hby d1_28) rfl (feq hc28).2 (by decide) (by decide) ?_
    show Steps p.tables e below (s₁.setTop (mkF m 35 #[.val (.int p1)] [])) _
    refine XS.iloadN X0.here hx rfl (hb hby d1_35) rfl ?_
    show Steps p.tables e below (s₁.setTop (mkF m 36 #[.val (.int p1)] [(.int p1)])) _
    refine XS.iconst X0.here hx rfl (hb hby d1_36) ?_
    show Steps p.tables e below (s₁.setTop (mkF m 37 #[.val (.int p1)] [(.int (4 : Int32)), (.int p1)])) _
    refine XS.icmpYes X0.here hx rfl (pc0 := 37) (pc' := 44) rfl (hb hby d1_37) rfl (feq hc37).2 (by decide) (by decide) ?_
    show Steps p.tables e below (s₁.setTop (mkF m 44 #[.val (.int p1)] [])) _
    refine XS.iloadN X0.here hx rfl (hb hby d1_44) rfl ?_
    show Steps p.tables e below (s₁.setTop (mkF m 45 #[.val (.int p1)] [(.int p1)])) _
    refine XS.iconst X0.here hx rfl (hb hby d1_45) ?_
    show Steps p.tables e below (s₁.setTop (mkF m 46 #[.val (.int p1)] [(.int (5 : Int32)), (.int p1)])) _
    refine XS.icmpNo X0.here hx rfl (hb hby d1_46) rfl (teq hc46).2 ?_
    show Steps p.tables e below (s₁.setTop (mkF m 49 #[.val (.int p1)] [])) _
    refine st1 _ ?_
    show Steps p.tables e below (T1.setTop (mkF m 52 #[.val (.int p1)] [(.ref w)])) _
    exact retOut X1 hx Bd.returns rfl (Or.inr (Or.inr (Or.inr (Or.inr ⟨rfl, rfl, rfl⟩)))) (hb hby d1_52) hr
  · show QP (some (.ref w)) h0 n0 _ T1.heap _
    rw [e1]
    exact ⟨rfl, N0, rfl⟩
theorem d1_53 : decode method_2_code 53 = .ok (.iload_n 0, 1) := by decide +kernel
theorem d1_54 : decode method_2_code 54 = .ok (.bipush 6, 2) := by decide +kernel
theorem d1_56 : decode method_2_code 56 = .ok (.if_icmp .ne 7, 3) := by decide +kernel
theorem d1_59 : decode method_2_code 59 = .ok (.getstatic 28, 3) := by decide +kernel
theorem d1_62 : decode method_2_code 62 = .ok (.areturn, 1) := by decide +kernel
set_option maxRecDepth 65536 in
set_option maxHeartbeats 40000000 in
theorem rm1_6 (l : Launch) (Z : State) (a0 : Array Value) (hw : ∀ d ∈ tables_1, d.before a0 Z = true) (ws : List Jvm.Cond) (p1 : Int32) (w : Addr) (h0 : Heap) (n0 : Nat) (Z0 : n0 ≤ h0.size) (S : Sta Z h0 "com/example/tabulon/tabulon/document/CellType" "DATE_TIME" "Lcom/example/tabulon/tabulon/document/CellType;" (.ref w)) (hc1 : ¬ (p1 = (0 : Int32))) (hc10 : ¬ (p1 = (1 : Int32))) (hc19 : ¬ (p1 = (2 : Int32))) (hc28 : ¬ (p1 = (3 : Int32))) (hc37 : ¬ (p1 = (4 : Int32))) (hc46 : ¬ (p1 = (5 : Int32))) (hc56 : p1 = (6 : Int32)) :
    MetFree l nm_1 (head1 (Jvm.Cond.code nm_1 method_2_code 1 (some (.object "com/example/tabulon/tabulon/document/CellType")) :: ws) rr0) (fun aa U => aa = #[(.int p1)] ∧ Z.Warmed39 U.vm ∧ U.heap = h0) (fun _ _ _ _ _ => True) (fun _ U o U' => ∃ v L, o = .returned v ∧ QP (some (.ref w)) h0 n0 v U'.heap L ∧ FrameEnd U o U' L rr0.cells rr0.slots) := by
  refine MetFree.of_bodySF (plainFor_of_name pn_com_example_tabulon_tabulon_document_CellTypeHoldsNumberPinLaw) hisR ?_
  intro p e s m args below meth c s₁ Bd hml0 hP hK
  obtain ⟨rfl, hZ, hh⟩ := hP
  have hx := Bd.exec
  have hby := Bd.bytes
  have hml : c.maxLocals = 1 := hml0
  have hown : s.vm.findClass "com/example/tabulon/tabulon/document/CellTypeHoldsNumberPinLaw" = some m.cls := findClass_of_methodNamed Bd.named
  have hnm := (name_of_methodNamed Bd.named Bd.method).1
  have X0 : Stand p l e rr0 s m #[(.int p1)] below meth c s₁ [] 0 0 := Stand.of_body Bd
  have e0 : s₁.heap = h0 := by rw [← hh, Bd.state]; rfl
  have N0 := Fr.nil n0
  have pre0 : ∀ t, Steps p.tables e below (s₁.setTop (mkF m 0 #[.val (.int p1)] [])) t → Steps p.tables e below (s₁.setTop (entryFrame m #[(.int p1)] 1)) t := fun t k => castTop (ef_1 m p1) k
  obtain ⟨T1, X1, e1, st1⟩ := getS2 X0 hx hZ hown (host := "") (Or.inl (ow hw 28 rfl)) Via.refl e0 S (g := (mkF m 59 #[.val (.int p1)] [])) rfl (hb hby d1_59)
  obtain ⟨fs, hr, hrun, hended, hW, hsame⟩ := X1.leave (v := some (.ref w)) (fun h => by rw [Bd.returns] at h; cases h)
  refine ⟨_, _, pre0 _ ?_, hrun, hended, _, _, rfl, ?_, ⟨_, rfl⟩, hW, hsame.mono (by decide) (by decide)⟩
  · show Steps p.tables e below (s₁.setTop (mkF m 0 #[.val (.int p1)] [])) _
    refine XS.iloadN X0.here hx rfl (hb hby d1_0) rfl ?_
    show Steps p.tables e below (s₁.setTop (mkF m 1 #[.val (.int p1)] [(.int p1)])) _
    refine XS.ifYes X0.here hx rfl (pc0 := 1) (pc' := 8) rfl (hb hby d1_1) rfl ((if0 _ _).trans (feq hc1).2) (by decide) (by decide) ?_
    show Steps p.tables e below (s₁.setTop (mkF m 8 #[.val (.int p1)] [])) _
    refine XS.iloadN X0.here hx rfl (hb hby d1_8) rfl ?_
    show Steps p.tables e below (s₁.setTop (mkF m 9 #[.val (.int p1)] [(.int p1)])) _
    refine XS.iconst X0.here hx rfl (hb hby d1_9) ?_
    show Steps p.tables e below (s₁.setTop (mkF m 10 #[.val (.int p1)] [(.int (1 : Int32)), (.int p1)])) _
    refine XS.icmpYes X0.here hx rfl (pc0 := 10) (pc' := 17) rfl (hb hby d1_10) rfl (feq hc10).2 (by decide) (by decide) ?_
    show Steps p.tables e below (s₁.setTop (mkF m 17 #[.val (.int p1)] [])) _
    refine XS.iloadN X0.here hx rfl (hb hby d1_17) rfl ?_
    show Steps p.tables e below (s₁.setTop (mkF m 18 #[.val (.int p1)] [(.int p1)])) _
    refine XS.iconst X0.here hx rfl (hb hby d1_18) ?_
    show Steps p.tables e below (s₁.setTop (mkF m 19 #[.val (.int p1)] [(.int (2 : Int32)), (.int p1)])) _
    refine XS.icmpYes X0.here hx rfl (pc0 := 19) (pc' := 26) rfl (hb hby d1_19) rfl (feq hc19).2 (by decide) (by decide) ?_
    show Steps p.tables e below (s₁.setTop (mkF m 26 #[.val (.int p1)] [])) _
    refine XS.iloadN X0.here hx rfl (hb hby d1_26) rfl ?_
    show Steps p.tables e below (s₁.setTop (mkF m 27 #[.val (.int p1)] [(.int p1)])) _
    refine XS.iconst X0.here hx rfl (hb hby d1_27) ?_
    show Steps p.tables e below (s₁.setTop (mkF m 28 #[.val (.int p1)] [(.int (3 : Int32)), (.int p1)])) _
    refine XS.icmpYes X0.here hx rfl (pc0 := 28) (pc' := 35) rfl (hb hby d1_28) rfl (feq hc28).2 (by decide) (by decide) ?_
    show Steps p.tables e below (s₁.setTop (mkF m 35 #[.val (.int p1)] [])) _
    refine XS.iloadN X0.here hx rfl (hb hby d1_35) rfl ?_
    show Steps p.tables e below (s₁.setTop (mkF m 36 #[.val (.int p1)] [(.int p1)])) _
    refine XS.iconst X0.here hx rfl (hb hby d1_36) ?_
    show Steps p.tables e below (s₁.setTop (mkF m 37 #[.val (.int p1)] [(.int (4 : Int32)), (.int p1)])) _
    refine XS.icmpYes X0.here hx rfl (pc0 := 37) (pc' := 44) rfl (hb hby d1_37) rfl (feq hc37).2 (by decide) (by decide) ?_
    show Steps p.tables e below (s₁.setTop (mkF m 44 #[.val (.int p1)] [])) _
    refine XS.iloadN X0.here hx rfl (hb hby d1_44) rfl ?_
    show Steps p.tables e below (s₁.setTop (mkF m 45 #[.val (.int p1)] [(.int p1)])) _
    refine XS.iconst X0.here hx rfl (hb hby d1_45) ?_
    show Steps p.tables e below (s₁.setTop (mkF m 46 #[.val (.int p1)] [(.int (5 : Int32)), (.int p1)])) _
    refine XS.icmpYes X0.here hx rfl (pc0 := 46) (pc' := 53) rfl (hb hby d1_46) rfl (feq hc46).2 (by decide) (by decide) ?_
    show Steps p.tables e below (s₁.setTop (mkF m 53 #[.val (.int p1)] [])) _
    refine XS.iloadN X0.here hx rfl (hb hby d1_53) rfl ?_
    show Steps p.tables e below (s₁.setTop (mkF m 54 #[.val (.int p1)] [(.int p1)])) _
    refine XS.bipush X0.here hx rfl (hb hby d1_54) ?_
    show Steps p.tables e below (s₁.setTop (mkF m 56 #[.val (.int p1)] [(.int (6 : Int32)), (.int p1)])) _
    refine XS.icmpNo X0.here hx rfl (hb hby d1_56) rfl (teq hc56).2 ?_
    show Steps p.tables e below (s₁.setTop (mkF m 59 #[.val (.int p1)] [])) _
    refine st1 _ ?_
    show Steps p.tables e below (T1.setTop (mkF m 62 #[.val (.int p1)] [(.ref w)])) _
    exact retOut X1 hx Bd.returns rfl (Or.inr (Or.inr (Or.inr (Or.inr ⟨rfl, rfl, rfl⟩)))) (hb hby d1_62) hr
  · show QP (some (.ref w)) h0 n0 _ T1.heap _
    rw [e1]
    exact ⟨rfl, N0, rfl⟩
theorem d1_63 : decode method_2_code 63 = .ok (.iload_n 0, 1) := by decide +kernel
theorem d1_64 : decode method_2_code 64 = .ok (.bipush 7, 2) := by decide +kernel
theorem d1_66 : decode method_2_code 66 = .ok (.if_icmp .ne 7, 3) := by decide +kernel
theorem d1_69 : decode method_2_code 69 = .ok (.getstatic 31, 3) := by decide +kernel
theorem d1_72 : decode method_2_code 72 = .ok (.areturn, 1) := by decide +kernel
set_option maxRecDepth 65536 in
set_option maxHeartbeats 40000000 in
theorem rm1_7 (l : Launch) (Z : State) (a0 : Array Value) (hw : ∀ d ∈ tables_1, d.before a0 Z = true) (ws : List Jvm.Cond) (p1 : Int32) (w : Addr) (h0 : Heap) (n0 : Nat) (Z0 : n0 ≤ h0.size) (S : Sta Z h0 "com/example/tabulon/tabulon/document/CellType" "REFERENCE" "Lcom/example/tabulon/tabulon/document/CellType;" (.ref w)) (hc1 : ¬ (p1 = (0 : Int32))) (hc10 : ¬ (p1 = (1 : Int32))) (hc19 : ¬ (p1 = (2 : Int32))) (hc28 : ¬ (p1 = (3 : Int32))) (hc37 : ¬ (p1 = (4 : Int32))) (hc46 : ¬ (p1 = (5 : Int32))) (hc56 : ¬ (p1 = (6 : Int32))) (hc66 : p1 = (7 : Int32)) :
    MetFree l nm_1 (head1 (Jvm.Cond.code nm_1 method_2_code 1 (some (.object "com/example/tabulon/tabulon/document/CellType")) :: ws) rr0) (fun aa U => aa = #[(.int p1)] ∧ Z.Warmed39 U.vm ∧ U.heap = h0) (fun _ _ _ _ _ => True) (fun _ U o U' => ∃ v L, o = .returned v ∧ QP (some (.ref w)) h0 n0 v U'.heap L ∧ FrameEnd U o U' L rr0.cells rr0.slots) := by
  refine MetFree.of_bodySF (plainFor_of_name pn_com_example_tabulon_tabulon_document_CellTypeHoldsNumberPinLaw) hisR ?_
  intro p e s m args below meth c s₁ Bd hml0 hP hK
  obtain ⟨rfl, hZ, hh⟩ := hP
  have hx := Bd.exec
  have hby := Bd.bytes
  have hml : c.maxLocals = 1 := hml0
  have hown : s.vm.findClass "com/example/tabulon/tabulon/document/CellTypeHoldsNumberPinLaw" = some m.cls := findClass_of_methodNamed Bd.named
  have hnm := (name_of_methodNamed Bd.named Bd.method).1
  have X0 : Stand p l e rr0 s m #[(.int p1)] below meth c s₁ [] 0 0 := Stand.of_body Bd
  have e0 : s₁.heap = h0 := by rw [← hh, Bd.state]; rfl
  have N0 := Fr.nil n0
  have pre0 : ∀ t, Steps p.tables e below (s₁.setTop (mkF m 0 #[.val (.int p1)] [])) t → Steps p.tables e below (s₁.setTop (entryFrame m #[(.int p1)] 1)) t := fun t k => castTop (ef_1 m p1) k
  obtain ⟨T1, X1, e1, st1⟩ := getS2 X0 hx hZ hown (host := "") (Or.inl (ow hw 30 rfl)) Via.refl e0 S (g := (mkF m 69 #[.val (.int p1)] [])) rfl (hb hby d1_69)
  obtain ⟨fs, hr, hrun, hended, hW, hsame⟩ := X1.leave (v := some (.ref w)) (fun h => by rw [Bd.returns] at h; cases h)
  refine ⟨_, _, pre0 _ ?_, hrun, hended, _, _, rfl, ?_, ⟨_, rfl⟩, hW, hsame.mono (by decide) (by decide)⟩
  · show Steps p.tables e below (s₁.setTop (mkF m 0 #[.val (.int p1)] [])) _
    refine XS.iloadN X0.here hx rfl (hb hby d1_0) rfl ?_
    show Steps p.tables e below (s₁.setTop (mkF m 1 #[.val (.int p1)] [(.int p1)])) _
    refine XS.ifYes X0.here hx rfl (pc0 := 1) (pc' := 8) rfl (hb hby d1_1) rfl ((if0 _ _).trans (feq hc1).2) (by decide) (by decide) ?_
    show Steps p.tables e below (s₁.setTop (mkF m 8 #[.val (.int p1)] [])) _
    refine XS.iloadN X0.here hx rfl (hb hby d1_8) rfl ?_
    show Steps p.tables e below (s₁.setTop (mkF m 9 #[.val (.int p1)] [(.int p1)])) _
    refine XS.iconst X0.here hx rfl (hb hby d1_9) ?_
    show Steps p.tables e below (s₁.setTop (mkF m 10 #[.val (.int p1)] [(.int (1 : Int32)), (.int p1)])) _
    refine XS.icmpYes X0.here hx rfl (pc0 := 10) (pc' := 17) rfl (hb hby d1_10) rfl (feq hc10).2 (by decide) (by decide) ?_
    show Steps p.tables e below (s₁.setTop (mkF m 17 #[.val (.int p1)] [])) _
    refine XS.iloadN X0.here hx rfl (hb hby d1_17) rfl ?_
    show Steps p.tables e below (s₁.setTop (mkF m 18 #[.val (.int p1)] [(.int p1)])) _
    refine XS.iconst X0.here hx rfl (hb hby d1_18) ?_
    show Steps p.tables e below (s₁.setTop (mkF m 19 #[.val (.int p1)] [(.int (2 : Int32)), (.int p1)])) _
    refine XS.icmpYes X0.here hx rfl (pc0 := 19) (pc' := 26) rfl (hb hby d1_19) rfl (feq hc19).2 (by decide) (by decide) ?_
    show Steps p.tables e below (s₁.setTop (mkF m 26 #[.val (.int p1)] [])) _
    refine XS.iloadN X0.here hx rfl (hb hby d1_26) rfl ?_
    show Steps p.tables e below (s₁.setTop (mkF m 27 #[.val (.int p1)] [(.int p1)])) _
    refine XS.iconst X0.here hx rfl (hb hby d1_27) ?_
    show Steps p.tables e below (s₁.setTop (mkF m 28 #[.val (.int p1)] [(.int (3 : Int32)), (.int p1)])) _
    refine XS.icmpYes X0.here hx rfl (pc0 := 28) (pc' := 35) rfl (hb hby d1_28) rfl (feq hc28).2 (by decide) (by decide) ?_
    show Steps p.tables e below (s₁.setTop (mkF m 35 #[.val (.int p1)] [])) _
    refine XS.iloadN X0.here hx rfl (hb hby d1_35) rfl ?_
    show Steps p.tables e below (s₁.setTop (mkF m 36 #[.val (.int p1)] [(.int p1)])) _
    refine XS.iconst X0.here hx rfl (hb hby d1_36) ?_
    show Steps p.tables e below (s₁.setTop (mkF m 37 #[.val (.int p1)] [(.int (4 : Int32)), (.int p1)])) _
    refine XS.icmpYes X0.here hx rfl (pc0 := 37) (pc' := 44) rfl (hb hby d1_37) rfl (feq hc37).2 (by decide) (by decide) ?_
    show Steps p.tables e below (s₁.setTop (mkF m 44 #[.val (.int p1)] [])) _
    refine XS.iloadN X0.here hx rfl (hb hby d1_44) rfl ?_
    show Steps p.tables e below (s₁.setTop (mkF m 45 #[.val (.int p1)] [(.int p1)])) _
    refine XS.iconst X0.here hx rfl (hb hby d1_45) ?_
    show Steps p.tables e below (s₁.setTop (mkF m 46 #[.val (.int p1)] [(.int (5 : Int32)), (.int p1)])) _
    refine XS.icmpYes X0.here hx rfl (pc0 := 46) (pc' := 53) rfl (hb hby d1_46) rfl (feq hc46).2 (by decide) (by decide) ?_
    show Steps p.tables e below (s₁.setTop (mkF m 53 #[.val (.int p1)] [])) _
    refine XS.iloadN X0.here hx rfl (hb hby d1_53) rfl ?_
    show Steps p.tables e below (s₁.setTop (mkF m 54 #[.val (.int p1)] [(.int p1)])) _
    refine XS.bipush X0.here hx rfl (hb hby d1_54) ?_
    show Steps p.tables e below (s₁.setTop (mkF m 56 #[.val (.int p1)] [(.int (6 : Int32)), (.int p1)])) _
    refine XS.icmpYes X0.here hx rfl (pc0 := 56) (pc' := 63) rfl (hb hby d1_56) rfl (feq hc56).2 (by decide) (by decide) ?_
    show Steps p.tables e below (s₁.setTop (mkF m 63 #[.val (.int p1)] [])) _
    refine XS.iloadN X0.here hx rfl (hb hby d1_63) rfl ?_
    show Steps p.tables e below (s₁.setTop (mkF m 64 #[.val (.int p1)] [(.int p1)])) _
    refine XS.bipush X0.here hx rfl (hb hby d1_64) ?_
    show Steps p.tables e below (s₁.setTop (mkF m 66 #[.val (.int p1)] [(.int (7 : Int32)), (.int p1)])) _
    refine XS.icmpNo X0.here hx rfl (hb hby d1_66) rfl (teq hc66).2 ?_
    show Steps p.tables e below (s₁.setTop (mkF m 69 #[.val (.int p1)] [])) _
    refine st1 _ ?_
    show Steps p.tables e below (T1.setTop (mkF m 72 #[.val (.int p1)] [(.ref w)])) _
    exact retOut X1 hx Bd.returns rfl (Or.inr (Or.inr (Or.inr (Or.inr ⟨rfl, rfl, rfl⟩)))) (hb hby d1_72) hr
  · show QP (some (.ref w)) h0 n0 _ T1.heap _
    rw [e1]
    exact ⟨rfl, N0, rfl⟩
theorem d1_73 : decode method_2_code 73 = .ok (.iload_n 0, 1) := by decide +kernel
theorem d1_74 : decode method_2_code 74 = .ok (.bipush 8, 2) := by decide +kernel
theorem d1_76 : decode method_2_code 76 = .ok (.if_icmp .ne 7, 3) := by decide +kernel
theorem d1_79 : decode method_2_code 79 = .ok (.getstatic 34, 3) := by decide +kernel
theorem d1_82 : decode method_2_code 82 = .ok (.areturn, 1) := by decide +kernel
set_option maxRecDepth 65536 in
set_option maxHeartbeats 40000000 in
theorem rm1_8 (l : Launch) (Z : State) (a0 : Array Value) (hw : ∀ d ∈ tables_1, d.before a0 Z = true) (ws : List Jvm.Cond) (p1 : Int32) (w : Addr) (h0 : Heap) (n0 : Nat) (Z0 : n0 ≤ h0.size) (S : Sta Z h0 "com/example/tabulon/tabulon/document/CellType" "REFERENCE_LIST" "Lcom/example/tabulon/tabulon/document/CellType;" (.ref w)) (hc1 : ¬ (p1 = (0 : Int32))) (hc10 : ¬ (p1 = (1 : Int32))) (hc19 : ¬ (p1 = (2 : Int32))) (hc28 : ¬ (p1 = (3 : Int32))) (hc37 : ¬ (p1 = (4 : Int32))) (hc46 : ¬ (p1 = (5 : Int32))) (hc56 : ¬ (p1 = (6 : Int32))) (hc66 : ¬ (p1 = (7 : Int32))) (hc76 : p1 = (8 : Int32)) :
    MetFree l nm_1 (head1 (Jvm.Cond.code nm_1 method_2_code 1 (some (.object "com/example/tabulon/tabulon/document/CellType")) :: ws) rr0) (fun aa U => aa = #[(.int p1)] ∧ Z.Warmed39 U.vm ∧ U.heap = h0) (fun _ _ _ _ _ => True) (fun _ U o U' => ∃ v L, o = .returned v ∧ QP (some (.ref w)) h0 n0 v U'.heap L ∧ FrameEnd U o U' L rr0.cells rr0.slots) := by
  refine MetFree.of_bodySF (plainFor_of_name pn_com_example_tabulon_tabulon_document_CellTypeHoldsNumberPinLaw) hisR ?_
  intro p e s m args below meth c s₁ Bd hml0 hP hK
  obtain ⟨rfl, hZ, hh⟩ := hP
  have hx := Bd.exec
  have hby := Bd.bytes
  have hml : c.maxLocals = 1 := hml0
  have hown : s.vm.findClass "com/example/tabulon/tabulon/document/CellTypeHoldsNumberPinLaw" = some m.cls := findClass_of_methodNamed Bd.named
  have hnm := (name_of_methodNamed Bd.named Bd.method).1
  have X0 : Stand p l e rr0 s m #[(.int p1)] below meth c s₁ [] 0 0 := Stand.of_body Bd
  have e0 : s₁.heap = h0 := by rw [← hh, Bd.state]; rfl
  have N0 := Fr.nil n0
  have pre0 : ∀ t, Steps p.tables e below (s₁.setTop (mkF m 0 #[.val (.int p1)] [])) t → Steps p.tables e below (s₁.setTop (entryFrame m #[(.int p1)] 1)) t := fun t k => castTop (ef_1 m p1) k
  obtain ⟨T1, X1, e1, st1⟩ := getS2 X0 hx hZ hown (host := "") (Or.inl (ow hw 43 rfl)) Via.refl e0 S (g := (mkF m 79 #[.val (.int p1)] [])) rfl (hb hby d1_79)
  obtain ⟨fs, hr, hrun, hended, hW, hsame⟩ := X1.leave (v := some (.ref w)) (fun h => by rw [Bd.returns] at h; cases h)
  refine ⟨_, _, pre0 _ ?_, hrun, hended, _, _, rfl, ?_, ⟨_, rfl⟩, hW, hsame.mono (by decide) (by decide)⟩
  · show Steps p.tables e below (s₁.setTop (mkF m 0 #[.val (.int p1)] [])) _
    refine XS.iloadN X0.here hx rfl (hb hby d1_0) rfl ?_
    show Steps p.tables e below (s₁.setTop (mkF m 1 #[.val (.int p1)] [(.int p1)])) _
    refine XS.ifYes X0.here hx rfl (pc0 := 1) (pc' := 8) rfl (hb hby d1_1) rfl ((if0 _ _).trans (feq hc1).2) (by decide) (by decide) ?_
    show Steps p.tables e below (s₁.setTop (mkF m 8 #[.val (.int p1)] [])) _
    refine XS.iloadN X0.here hx rfl (hb hby d1_8) rfl ?_
    show Steps p.tables e below (s₁.setTop (mkF m 9 #[.val (.int p1)] [(.int p1)])) _
    refine XS.iconst X0.here hx rfl (hb hby d1_9) ?_
    show Steps p.tables e below (s₁.setTop (mkF m 10 #[.val (.int p1)] [(.int (1 : Int32)), (.int p1)])) _
    refine XS.icmpYes X0.here hx rfl (pc0 := 10) (pc' := 17) rfl (hb hby d1_10) rfl (feq hc10).2 (by decide) (by decide) ?_
    show Steps p.tables e below (s₁.setTop (mkF m 17 #[.val (.int p1)] [])) _
    refine XS.iloadN X0.here hx rfl (hb hby d1_17) rfl ?_
    show Steps p.tables e below (s₁.setTop (mkF m 18 #[.val (.int p1)] [(.int p1)])) _
    refine XS.iconst X0.here hx rfl (hb hby d1_18) ?_
    show Steps p.tables e below (s₁.setTop (mkF m 19 #[.val (.int p1)] [(.int (2 : Int32)), (.int p1)])) _
    refine XS.icmpYes X0.here hx rfl (pc0 := 19) (pc' := 26) rfl (hb hby d1_19) rfl (feq hc19).2 (by decide) (by decide) ?_
    show Steps p.tables e below (s₁.setTop (mkF m 26 #[.val (.int p1)] [])) _
    refine XS.iloadN X0.here hx rfl (hb hby d1_26) rfl ?_
    show Steps p.tables e below (s₁.setTop (mkF m 27 #[.val (.int p1)] [(.int p1)])) _
    refine XS.iconst X0.here hx rfl (hb hby d1_27) ?_
    show Steps p.tables e below (s₁.setTop (mkF m 28 #[.val (.int p1)] [(.int (3 : Int32)), (.int p1)])) _
    refine XS.icmpYes X0.here hx rfl (pc0 := 28) (pc' := 35) rfl (hb hby d1_28) rfl (feq hc28).2 (by decide) (by decide) ?_
    show Steps p.tables e below (s₁.setTop (mkF m 35 #[.val (.int p1)] [])) _
    refine XS.iloadN X0.here hx rfl (hb hby d1_35) rfl ?_
    show Steps p.tables e below (s₁.setTop (mkF m 36 #[.val (.int p1)] [(.int p1)])) _
    refine XS.iconst X0.here hx rfl (hb hby d1_36) ?_
    show Steps p.tables e below (s₁.setTop (mkF m 37 #[.val (.int p1)] [(.int (4 : Int32)), (.int p1)])) _
    refine XS.icmpYes X0.here hx rfl (pc0 := 37) (pc' := 44) rfl (hb hby d1_37) rfl (feq hc37).2 (by decide) (by decide) ?_
    show Steps p.tables e below (s₁.setTop (mkF m 44 #[.val (.int p1)] [])) _
    refine XS.iloadN X0.here hx rfl (hb hby d1_44) rfl ?_
    show Steps p.tables e below (s₁.setTop (mkF m 45 #[.val (.int p1)] [(.int p1)])) _
    refine XS.iconst X0.here hx rfl (hb hby d1_45) ?_
    show Steps p.tables e below (s₁.setTop (mkF m 46 #[.val (.int p1)] [(.int (5 : Int32)), (.int p1)])) _
    refine XS.icmpYes X0.here hx rfl (pc0 := 46) (pc' := 53) rfl (hb hby d1_46) rfl (feq hc46).2 (by decide) (by decide) ?_
    show Steps p.tables e below (s₁.setTop (mkF m 53 #[.val (.int p1)] [])) _
    refine XS.iloadN X0.here hx rfl (hb hby d1_53) rfl ?_
    show Steps p.tables e below (s₁.setTop (mkF m 54 #[.val (.int p1)] [(.int p1)])) _
    refine XS.bipush X0.here hx rfl (hb hby d1_54) ?_
    show Steps p.tables e below (s₁.setTop (mkF m 56 #[.val (.int p1)] [(.int (6 : Int32)), (.int p1)])) _
    refine XS.icmpYes X0.here hx rfl (pc0 := 56) (pc' := 63) rfl (hb hby d1_56) rfl (feq hc56).2 (by decide) (by decide) ?_
    show Steps p.tables e below (s₁.setTop (mkF m 63 #[.val (.int p1)] [])) _
    refine XS.iloadN X0.here hx rfl (hb hby d1_63) rfl ?_
    show Steps p.tables e below (s₁.setTop (mkF m 64 #[.val (.int p1)] [(.int p1)])) _
    refine XS.bipush X0.here hx rfl (hb hby d1_64) ?_
    show Steps p.tables e below (s₁.setTop (mkF m 66 #[.val (.int p1)] [(.int (7 : Int32)), (.int p1)])) _
    refine XS.icmpYes X0.here hx rfl (pc0 := 66) (pc' := 73) rfl (hb hby d1_66) rfl (feq hc66).2 (by decide) (by decide) ?_
    show Steps p.tables e below (s₁.setTop (mkF m 73 #[.val (.int p1)] [])) _
    refine XS.iloadN X0.here hx rfl (hb hby d1_73) rfl ?_
    show Steps p.tables e below (s₁.setTop (mkF m 74 #[.val (.int p1)] [(.int p1)])) _
    refine XS.bipush X0.here hx rfl (hb hby d1_74) ?_
    show Steps p.tables e below (s₁.setTop (mkF m 76 #[.val (.int p1)] [(.int (8 : Int32)), (.int p1)])) _
    refine XS.icmpNo X0.here hx rfl (hb hby d1_76) rfl (teq hc76).2 ?_
    show Steps p.tables e below (s₁.setTop (mkF m 79 #[.val (.int p1)] [])) _
    refine st1 _ ?_
    show Steps p.tables e below (T1.setTop (mkF m 82 #[.val (.int p1)] [(.ref w)])) _
    exact retOut X1 hx Bd.returns rfl (Or.inr (Or.inr (Or.inr (Or.inr ⟨rfl, rfl, rfl⟩)))) (hb hby d1_82) hr
  · show QP (some (.ref w)) h0 n0 _ T1.heap _
    rw [e1]
    exact ⟨rfl, N0, rfl⟩
theorem d1_83 : decode method_2_code 83 = .ok (.iload_n 0, 1) := by decide +kernel
theorem d1_84 : decode method_2_code 84 = .ok (.bipush 9, 2) := by decide +kernel
theorem d1_86 : decode method_2_code 86 = .ok (.if_icmp .ne 7, 3) := by decide +kernel
theorem d1_89 : decode method_2_code 89 = .ok (.getstatic 37, 3) := by decide +kernel
theorem d1_92 : decode method_2_code 92 = .ok (.areturn, 1) := by decide +kernel
set_option maxRecDepth 65536 in
set_option maxHeartbeats 40000000 in
theorem rm1_9 (l : Launch) (Z : State) (a0 : Array Value) (hw : ∀ d ∈ tables_1, d.before a0 Z = true) (ws : List Jvm.Cond) (p1 : Int32) (w : Addr) (h0 : Heap) (n0 : Nat) (Z0 : n0 ≤ h0.size) (S : Sta Z h0 "com/example/tabulon/tabulon/document/CellType" "CHOICE" "Lcom/example/tabulon/tabulon/document/CellType;" (.ref w)) (hc1 : ¬ (p1 = (0 : Int32))) (hc10 : ¬ (p1 = (1 : Int32))) (hc19 : ¬ (p1 = (2 : Int32))) (hc28 : ¬ (p1 = (3 : Int32))) (hc37 : ¬ (p1 = (4 : Int32))) (hc46 : ¬ (p1 = (5 : Int32))) (hc56 : ¬ (p1 = (6 : Int32))) (hc66 : ¬ (p1 = (7 : Int32))) (hc76 : ¬ (p1 = (8 : Int32))) (hc86 : p1 = (9 : Int32)) :
    MetFree l nm_1 (head1 (Jvm.Cond.code nm_1 method_2_code 1 (some (.object "com/example/tabulon/tabulon/document/CellType")) :: ws) rr0) (fun aa U => aa = #[(.int p1)] ∧ Z.Warmed39 U.vm ∧ U.heap = h0) (fun _ _ _ _ _ => True) (fun _ U o U' => ∃ v L, o = .returned v ∧ QP (some (.ref w)) h0 n0 v U'.heap L ∧ FrameEnd U o U' L rr0.cells rr0.slots) := by
  refine MetFree.of_bodySF (plainFor_of_name pn_com_example_tabulon_tabulon_document_CellTypeHoldsNumberPinLaw) hisR ?_
  intro p e s m args below meth c s₁ Bd hml0 hP hK
  obtain ⟨rfl, hZ, hh⟩ := hP
  have hx := Bd.exec
  have hby := Bd.bytes
  have hml : c.maxLocals = 1 := hml0
  have hown : s.vm.findClass "com/example/tabulon/tabulon/document/CellTypeHoldsNumberPinLaw" = some m.cls := findClass_of_methodNamed Bd.named
  have hnm := (name_of_methodNamed Bd.named Bd.method).1
  have X0 : Stand p l e rr0 s m #[(.int p1)] below meth c s₁ [] 0 0 := Stand.of_body Bd
  have e0 : s₁.heap = h0 := by rw [← hh, Bd.state]; rfl
  have N0 := Fr.nil n0
  have pre0 : ∀ t, Steps p.tables e below (s₁.setTop (mkF m 0 #[.val (.int p1)] [])) t → Steps p.tables e below (s₁.setTop (entryFrame m #[(.int p1)] 1)) t := fun t k => castTop (ef_1 m p1) k
  obtain ⟨T1, X1, e1, st1⟩ := getS2 X0 hx hZ hown (host := "") (Or.inl (ow hw 50 rfl)) Via.refl e0 S (g := (mkF m 89 #[.val (.int p1)] [])) rfl (hb hby d1_89)
  obtain ⟨fs, hr, hrun, hended, hW, hsame⟩ := X1.leave (v := some (.ref w)) (fun h => by rw [Bd.returns] at h; cases h)
  refine ⟨_, _, pre0 _ ?_, hrun, hended, _, _, rfl, ?_, ⟨_, rfl⟩, hW, hsame.mono (by decide) (by decide)⟩
  · show Steps p.tables e below (s₁.setTop (mkF m 0 #[.val (.int p1)] [])) _
    refine XS.iloadN X0.here hx rfl (hb hby d1_0) rfl ?_
    show Steps p.tables e below (s₁.setTop (mkF m 1 #[.val (.int p1)] [(.int p1)])) _
    refine XS.ifYes X0.here hx rfl (pc0 := 1) (pc' := 8) rfl (hb hby d1_1) rfl ((if0 _ _).trans (feq hc1).2) (by decide) (by decide) ?_
    show Steps p.tables e below (s₁.setTop (mkF m 8 #[.val (.int p1)] [])) _
    refine XS.iloadN X0.here hx rfl (hb hby d1_8) rfl ?_
    show Steps p.tables e below (s₁.setTop (mkF m 9 #[.val (.int p1)] [(.int p1)])) _
    refine XS.iconst X0.here hx rfl (hb hby d1_9) ?_
    show Steps p.tables e below (s₁.setTop (mkF m 10 #[.val (.int p1)] [(.int (1 : Int32)), (.int p1)])) _
    refine XS.icmpYes X0.here hx rfl (pc0 := 10) (pc' := 17) rfl (hb hby d1_10) rfl (feq hc10).2 (by decide) (by decide) ?_
    show Steps p.tables e below (s₁.setTop (mkF m 17 #[.val (.int p1)] [])) _
    refine XS.iloadN X0.here hx rfl (hb hby d1_17) rfl ?_
    show Steps p.tables e below (s₁.setTop (mkF m 18 #[.val (.int p1)] [(.int p1)])) _
    refine XS.iconst X0.here hx rfl (hb hby d1_18) ?_
    show Steps p.tables e below (s₁.setTop (mkF m 19 #[.val (.int p1)] [(.int (2 : Int32)), (.int p1)])) _
    refine XS.icmpYes X0.here hx rfl (pc0 := 19) (pc' := 26) rfl (hb hby d1_19) rfl (feq hc19).2 (by decide) (by decide) ?_
    show Steps p.tables e below (s₁.setTop (mkF m 26 #[.val (.int p1)] [])) _
    refine XS.iloadN X0.here hx rfl (hb hby d1_26) rfl ?_
    show Steps p.tables e below (s₁.setTop (mkF m 27 #[.val (.int p1)] [(.int p1)])) _
    refine XS.iconst X0.here hx rfl (hb hby d1_27) ?_
    show Steps p.tables e below (s₁.setTop (mkF m 28 #[.val (.int p1)] [(.int (3 : Int32)), (.int p1)])) _
    refine XS.icmpYes X0.here hx rfl (pc0 := 28) (pc' := 35) rfl (hb hby d1_28) rfl (feq hc28).2 (by decide) (by decide) ?_
    show Steps p.tables e below (s₁.setTop (mkF m 35 #[.val (.int p1)] [])) _
    refine XS.iloadN X0.here hx rfl (hb hby d1_35) rfl ?_
    show Steps p.tables e below (s₁.setTop (mkF m 36 #[.val (.int p1)] [(.int p1)])) _
    refine XS.iconst X0.here hx rfl (hb hby d1_36) ?_
    show Steps p.tables e below (s₁.setTop (mkF m 37 #[.val (.int p1)] [(.int (4 : Int32)), (.int p1)])) _
    refine XS.icmpYes X0.here hx rfl (pc0 := 37) (pc' := 44) rfl (hb hby d1_37) rfl (feq hc37).2 (by decide) (by decide) ?_
    show Steps p.tables e below (s₁.setTop (mkF m 44 #[.val (.int p1)] [])) _
    refine XS.iloadN X0.here hx rfl (hb hby d1_44) rfl ?_
    show Steps p.tables e below (s₁.setTop (mkF m 45 #[.val (.int p1)] [(.int p1)])) _
    refine XS.iconst X0.here hx rfl (hb hby d1_45) ?_
    show Steps p.tables e below (s₁.setTop (mkF m 46 #[.val (.int p1)] [(.int (5 : Int32)), (.int p1)])) _
    refine XS.icmpYes X0.here hx rfl (pc0 := 46) (pc' := 53) rfl (hb hby d1_46) rfl (feq hc46).2 (by decide) (by decide) ?_
    show Steps p.tables e below (s₁.setTop (mkF m 53 #[.val (.int p1)] [])) _
    refine XS.iloadN X0.here hx rfl (hb hby d1_53) rfl ?_
    show Steps p.tables e below (s₁.setTop (mkF m 54 #[.val (.int p1)] [(.int p1)])) _
    refine XS.bipush X0.here hx rfl (hb hby d1_54) ?_
    show Steps p.tables e below (s₁.setTop (mkF m 56 #[.val (.int p1)] [(.int (6 : Int32)), (.int p1)])) _
    refine XS.icmpYes X0.here hx rfl (pc0 := 56) (pc' := 63) rfl (hb hby d1_56) rfl (feq hc56).2 (by decide) (by decide) ?_
    show Steps p.tables e below (s₁.setTop (mkF m 63 #[.val (.int p1)] [])) _
    refine XS.iloadN X0.here hx rfl (hb hby d1_63) rfl ?_
    show Steps p.tables e below (s₁.setTop (mkF m 64 #[.val (.int p1)] [(.int p1)])) _
    refine XS.bipush X0.here hx rfl (hb hby d1_64) ?_
    show Steps p.tables e below (s₁.setTop (mkF m 66 #[.val (.int p1)] [(.int (7 : Int32)), (.int p1)])) _
    refine XS.icmpYes X0.here hx rfl (pc0 := 66) (pc' := 73) rfl (hb hby d1_66) rfl (feq hc66).2 (by decide) (by decide) ?_
    show Steps p.tables e below (s₁.setTop (mkF m 73 #[.val (.int p1)] [])) _
    refine XS.iloadN X0.here hx rfl (hb hby d1_73) rfl ?_
    show Steps p.tables e below (s₁.setTop (mkF m 74 #[.val (.int p1)] [(.int p1)])) _
    refine XS.bipush X0.here hx rfl (hb hby d1_74) ?_
    show Steps p.tables e below (s₁.setTop (mkF m 76 #[.val (.int p1)] [(.int (8 : Int32)), (.int p1)])) _
    refine XS.icmpYes X0.here hx rfl (pc0 := 76) (pc' := 83) rfl (hb hby d1_76) rfl (feq hc76).2 (by decide) (by decide) ?_
    show Steps p.tables e below (s₁.setTop (mkF m 83 #[.val (.int p1)] [])) _
    refine XS.iloadN X0.here hx rfl (hb hby d1_83) rfl ?_
    show Steps p.tables e below (s₁.setTop (mkF m 84 #[.val (.int p1)] [(.int p1)])) _
    refine XS.bipush X0.here hx rfl (hb hby d1_84) ?_
    show Steps p.tables e below (s₁.setTop (mkF m 86 #[.val (.int p1)] [(.int (9 : Int32)), (.int p1)])) _
    refine XS.icmpNo X0.here hx rfl (hb hby d1_86) rfl (teq hc86).2 ?_
    show Steps p.tables e below (s₁.setTop (mkF m 89 #[.val (.int p1)] [])) _
    refine st1 _ ?_
    show Steps p.tables e below (T1.setTop (mkF m 92 #[.val (.int p1)] [(.ref w)])) _
    exact retOut X1 hx Bd.returns rfl (Or.inr (Or.inr (Or.inr (Or.inr ⟨rfl, rfl, rfl⟩)))) (hb hby d1_92) hr
  · show QP (some (.ref w)) h0 n0 _ T1.heap _
    rw [e1]
    exact ⟨rfl, N0, rfl⟩
theorem d1_93 : decode method_2_code 93 = .ok (.iload_n 0, 1) := by decide +kernel
theorem d1_94 : decode method_2_code 94 = .ok (.bipush 10, 2) := by decide +kernel
theorem d1_96 : decode method_2_code 96 = .ok (.if_icmp .ne 7, 3) := by decide +kernel
theorem d1_99 : decode method_2_code 99 = .ok (.getstatic 40, 3) := by decide +kernel
theorem d1_102 : decode method_2_code 102 = .ok (.areturn, 1) := by decide +kernel
set_option maxRecDepth 65536 in
set_option maxHeartbeats 40000000 in
theorem rm1_10 (l : Launch) (Z : State) (a0 : Array Value) (hw : ∀ d ∈ tables_1, d.before a0 Z = true) (ws : List Jvm.Cond) (p1 : Int32) (w : Addr) (h0 : Heap) (n0 : Nat) (Z0 : n0 ≤ h0.size) (S : Sta Z h0 "com/example/tabulon/tabulon/document/CellType" "POSITION_NUMBER" "Lcom/example/tabulon/tabulon/document/CellType;" (.ref w)) (hc1 : ¬ (p1 = (0 : Int32))) (hc10 : ¬ (p1 = (1 : Int32))) (hc19 : ¬ (p1 = (2 : Int32))) (hc28 : ¬ (p1 = (3 : Int32))) (hc37 : ¬ (p1 = (4 : Int32))) (hc46 : ¬ (p1 = (5 : Int32))) (hc56 : ¬ (p1 = (6 : Int32))) (hc66 : ¬ (p1 = (7 : Int32))) (hc76 : ¬ (p1 = (8 : Int32))) (hc86 : ¬ (p1 = (9 : Int32))) (hc96 : p1 = (10 : Int32)) :
    MetFree l nm_1 (head1 (Jvm.Cond.code nm_1 method_2_code 1 (some (.object "com/example/tabulon/tabulon/document/CellType")) :: ws) rr0) (fun aa U => aa = #[(.int p1)] ∧ Z.Warmed39 U.vm ∧ U.heap = h0) (fun _ _ _ _ _ => True) (fun _ U o U' => ∃ v L, o = .returned v ∧ QP (some (.ref w)) h0 n0 v U'.heap L ∧ FrameEnd U o U' L rr0.cells rr0.slots) := by
  refine MetFree.of_bodySF (plainFor_of_name pn_com_example_tabulon_tabulon_document_CellTypeHoldsNumberPinLaw) hisR ?_
  intro p e s m args below meth c s₁ Bd hml0 hP hK
  obtain ⟨rfl, hZ, hh⟩ := hP
  have hx := Bd.exec
  have hby := Bd.bytes
  have hml : c.maxLocals = 1 := hml0
  have hown : s.vm.findClass "com/example/tabulon/tabulon/document/CellTypeHoldsNumberPinLaw" = some m.cls := findClass_of_methodNamed Bd.named
  have hnm := (name_of_methodNamed Bd.named Bd.method).1
  have X0 : Stand p l e rr0 s m #[(.int p1)] below meth c s₁ [] 0 0 := Stand.of_body Bd
  have e0 : s₁.heap = h0 := by rw [← hh, Bd.state]; rfl
  have N0 := Fr.nil n0
  have pre0 : ∀ t, Steps p.tables e below (s₁.setTop (mkF m 0 #[.val (.int p1)] [])) t → Steps p.tables e below (s₁.setTop (entryFrame m #[(.int p1)] 1)) t := fun t k => castTop (ef_1 m p1) k
  obtain ⟨T1, X1, e1, st1⟩ := getS2 X0 hx hZ hown (host := "") (Or.inl (ow hw 32 rfl)) Via.refl e0 S (g := (mkF m 99 #[.val (.int p1)] [])) rfl (hb hby d1_99)
  obtain ⟨fs, hr, hrun, hended, hW, hsame⟩ := X1.leave (v := some (.ref w)) (fun h => by rw [Bd.returns] at h; cases h)
  refine ⟨_, _, pre0 _ ?_, hrun, hended, _, _, rfl, ?_, ⟨_, rfl⟩, hW, hsame.mono (by decide) (by decide)⟩
  · show Steps p.tables e below (s₁.setTop (mkF m 0 #[.val (.int p1)] [])) _
    refine XS.iloadN X0.here hx rfl (hb hby d1_0) rfl ?_
    show Steps p.tables e below (s₁.setTop (mkF m 1 #[.val (.int p1)] [(.int p1)])) _
    refine XS.ifYes X0.here hx rfl (pc0 := 1) (pc' := 8) rfl (hb hby d1_1) rfl ((if0 _ _).trans (feq hc1).2) (by decide) (by decide) ?_
    show Steps p.tables e below (s₁.setTop (mkF m 8 #[.val (.int p1)] [])) _
    refine XS.iloadN X0.here hx rfl (hb hby d1_8) rfl ?_
    show Steps p.tables e below (s₁.setTop (mkF m 9 #[.val (.int p1)] [(.int p1)])) _
    refine XS.iconst X0.here hx rfl (hb hby d1_9) ?_
    show Steps p.tables e below (s₁.setTop (mkF m 10 #[.val (.int p1)] [(.int (1 : Int32)), (.int p1)])) _
    refine XS.icmpYes X0.here hx rfl (pc0 := 10) (pc' := 17) rfl (hb hby d1_10) rfl (feq hc10).2 (by decide) (by decide) ?_
    show Steps p.tables e below (s₁.setTop (mkF m 17 #[.val (.int p1)] [])) _
    refine XS.iloadN X0.here hx rfl (hb hby d1_17) rfl ?_
    show Steps p.tables e below (s₁.setTop (mkF m 18 #[.val (.int p1)] [(.int p1)])) _
    refine XS.iconst X0.here hx rfl (hb hby d1_18) ?_
    show Steps p.tables e below (s₁.setTop (mkF m 19 #[.val (.int p1)] [(.int (2 : Int32)), (.int p1)])) _
    refine XS.icmpYes X0.here hx rfl (pc0 := 19) (pc' := 26) rfl (hb hby d1_19) rfl (feq hc19).2 (by decide) (by decide) ?_
    show Steps p.tables e below (s₁.setTop (mkF m 26 #[.val (.int p1)] [])) _
    refine XS.iloadN X0.here hx rfl (hb hby d1_26) rfl ?_
    show Steps p.tables e below (s₁.setTop (mkF m 27 #[.val (.int p1)] [(.int p1)])) _
    refine XS.iconst X0.here hx rfl (hb hby d1_27) ?_
    show Steps p.tables e below (s₁.setTop (mkF m 28 #[.val (.int p1)] [(.int (3 : Int32)), (.int p1)])) _
    refine XS.icmpYes X0.here hx rfl (pc0 := 28) (pc' := 35) rfl (hb hby d1_28) rfl (feq hc28).2 (by decide) (by decide) ?_
    show Steps p.tables e below (s₁.setTop (mkF m 35 #[.val (.int p1)] [])) _
    refine XS.iloadN X0.here hx rfl (hb hby d1_35) rfl ?_
    show Steps p.tables e below (s₁.setTop (mkF m 36 #[.val (.int p1)] [(.int p1)])) _
    refine XS.iconst X0.here hx rfl (hb hby d1_36) ?_
    show Steps p.tables e below (s₁.setTop (mkF m 37 #[.val (.int p1)] [(.int (4 : Int32)), (.int p1)])) _
    refine XS.icmpYes X0.here hx rfl (pc0 := 37) (pc' := 44) rfl (hb hby d1_37) rfl (feq hc37).2 (by decide) (by decide) ?_
    show Steps p.tables e below (s₁.setTop (mkF m 44 #[.val (.int p1)] [])) _
    refine XS.iloadN X0.here hx rfl (hb hby d1_44) rfl ?_
    show Steps p.tables e below (s₁.setTop (mkF m 45 #[.val (.int p1)] [(.int p1)])) _
    refine XS.iconst X0.here hx rfl (hb hby d1_45) ?_
    show Steps p.tables e below (s₁.setTop (mkF m 46 #[.val (.int p1)] [(.int (5 : Int32)), (.int p1)])) _
    refine XS.icmpYes X0.here hx rfl (pc0 := 46) (pc' := 53) rfl (hb hby d1_46) rfl (feq hc46).2 (by decide) (by decide) ?_
    show Steps p.tables e below (s₁.setTop (mkF m 53 #[.val (.int p1)] [])) _
    refine XS.iloadN X0.here hx rfl (hb hby d1_53) rfl ?_
    show Steps p.tables e below (s₁.setTop (mkF m 54 #[.val (.int p1)] [(.int p1)])) _
    refine XS.bipush X0.here hx rfl (hb hby d1_54) ?_
    show Steps p.tables e below (s₁.setTop (mkF m 56 #[.val (.int p1)] [(.int (6 : Int32)), (.int p1)])) _
    refine XS.icmpYes X0.here hx rfl (pc0 := 56) (pc' := 63) rfl (hb hby d1_56) rfl (feq hc56).2 (by decide) (by decide) ?_
    show Steps p.tables e below (s₁.setTop (mkF m 63 #[.val (.int p1)] [])) _
    refine XS.iloadN X0.here hx rfl (hb hby d1_63) rfl ?_
    show Steps p.tables e below (s₁.setTop (mkF m 64 #[.val (.int p1)] [(.int p1)])) _
    refine XS.bipush X0.here hx rfl (hb hby d1_64) ?_
    show Steps p.tables e below (s₁.setTop (mkF m 66 #[.val (.int p1)] [(.int (7 : Int32)), (.int p1)])) _
    refine XS.icmpYes X0.here hx rfl (pc0 := 66) (pc' := 73) rfl (hb hby d1_66) rfl (feq hc66).2 (by decide) (by decide) ?_
    show Steps p.tables e below (s₁.setTop (mkF m 73 #[.val (.int p1)] [])) _
    refine XS.iloadN X0.here hx rfl (hb hby d1_73) rfl ?_
    show Steps p.tables e below (s₁.setTop (mkF m 74 #[.val (.int p1)] [(.int p1)])) _
    refine XS.bipush X0.here hx rfl (hb hby d1_74) ?_
    show Steps p.tables e below (s₁.setTop (mkF m 76 #[.val (.int p1)] [(.int (8 : Int32)), (.int p1)])) _
    refine XS.icmpYes X0.here hx rfl (pc0 := 76) (pc' := 83) rfl (hb hby d1_76) rfl (feq hc76).2 (by decide) (by decide) ?_
    show Steps p.tables e below (s₁.setTop (mkF m 83 #[.val (.int p1)] [])) _
    refine XS.iloadN X0.here hx rfl (hb hby d1_83) rfl ?_
    show Steps p.tables e below (s₁.setTop (mkF m 84 #[.val (.int p1)] [(.int p1)])) _
    refine XS.bipush X0.here hx rfl (hb hby d1_84) ?_
    show Steps p.tables e below (s₁.setTop (mkF m 86 #[.val (.int p1)] [(.int (9 : Int32)), (.int p1)])) _
    refine XS.icmpYes X0.here hx rfl (pc0 := 86) (pc' := 93) rfl (hb hby d1_86) rfl (feq hc86).2 (by decide) (by decide) ?_
    show Steps p.tables e below (s₁.setTop (mkF m 93 #[.val (.int p1)] [])) _
    refine XS.iloadN X0.here hx rfl (hb hby d1_93) rfl ?_
    show Steps p.tables e below (s₁.setTop (mkF m 94 #[.val (.int p1)] [(.int p1)])) _
    refine XS.bipush X0.here hx rfl (hb hby d1_94) ?_
    show Steps p.tables e below (s₁.setTop (mkF m 96 #[.val (.int p1)] [(.int (10 : Int32)), (.int p1)])) _
    refine XS.icmpNo X0.here hx rfl (hb hby d1_96) rfl (teq hc96).2 ?_
    show Steps p.tables e below (s₁.setTop (mkF m 99 #[.val (.int p1)] [])) _
    refine st1 _ ?_
    show Steps p.tables e below (T1.setTop (mkF m 102 #[.val (.int p1)] [(.ref w)])) _
    exact retOut X1 hx Bd.returns rfl (Or.inr (Or.inr (Or.inr (Or.inr ⟨rfl, rfl, rfl⟩)))) (hb hby d1_102) hr
  · show QP (some (.ref w)) h0 n0 _ T1.heap _
    rw [e1]
    exact ⟨rfl, N0, rfl⟩
theorem d1_103 : decode method_2_code 103 = .ok (.iload_n 0, 1) := by decide +kernel
theorem d1_104 : decode method_2_code 104 = .ok (.bipush 11, 2) := by decide +kernel
theorem d1_106 : decode method_2_code 106 = .ok (.if_icmp .ne 7, 3) := by decide +kernel
theorem d1_109 : decode method_2_code 109 = .ok (.getstatic 43, 3) := by decide +kernel
theorem d1_112 : decode method_2_code 112 = .ok (.areturn, 1) := by decide +kernel
set_option maxRecDepth 65536 in
set_option maxHeartbeats 40000000 in
theorem rm1_11 (l : Launch) (Z : State) (a0 : Array Value) (hw : ∀ d ∈ tables_1, d.before a0 Z = true) (ws : List Jvm.Cond) (p1 : Int32) (w : Addr) (h0 : Heap) (n0 : Nat) (Z0 : n0 ≤ h0.size) (S : Sta Z h0 "com/example/tabulon/tabulon/document/CellType" "IMAGE" "Lcom/example/tabulon/tabulon/document/CellType;" (.ref w)) (hc1 : ¬ (p1 = (0 : Int32))) (hc10 : ¬ (p1 = (1 : Int32))) (hc19 : ¬ (p1 = (2 : Int32))) (hc28 : ¬ (p1 = (3 : Int32))) (hc37 : ¬ (p1 = (4 : Int32))) (hc46 : ¬ (p1 = (5 : Int32))) (hc56 : ¬ (p1 = (6 : Int32))) (hc66 : ¬ (p1 = (7 : Int32))) (hc76 : ¬ (p1 = (8 : Int32))) (hc86 : ¬ (p1 = (9 : Int32))) (hc96 : ¬ (p1 = (10 : Int32))) (hc106 : p1 = (11 : Int32)) :
    MetFree l nm_1 (head1 (Jvm.Cond.code nm_1 method_2_code 1 (some (.object "com/example/tabulon/tabulon/document/CellType")) :: ws) rr0) (fun aa U => aa = #[(.int p1)] ∧ Z.Warmed39 U.vm ∧ U.heap = h0) (fun _ _ _ _ _ => True) (fun _ U o U' => ∃ v L, o = .returned v ∧ QP (some (.ref w)) h0 n0 v U'.heap L ∧ FrameEnd U o U' L rr0.cells rr0.slots) := by
  refine MetFree.of_bodySF (plainFor_of_name pn_com_example_tabulon_tabulon_document_CellTypeHoldsNumberPinLaw) hisR ?_
  intro p e s m args below meth c s₁ Bd hml0 hP hK
  obtain ⟨rfl, hZ, hh⟩ := hP
  have hx := Bd.exec
  have hby := Bd.bytes
  have hml : c.maxLocals = 1 := hml0
  have hown : s.vm.findClass "com/example/tabulon/tabulon/document/CellTypeHoldsNumberPinLaw" = some m.cls := findClass_of_methodNamed Bd.named
  have hnm := (name_of_methodNamed Bd.named Bd.method).1
  have X0 : Stand p l e rr0 s m #[(.int p1)] below meth c s₁ [] 0 0 := Stand.of_body Bd
  have e0 : s₁.heap = h0 := by rw [← hh, Bd.state]; rfl
  have N0 := Fr.nil n0
  have pre0 : ∀ t, Steps p.tables e below (s₁.setTop (mkF m 0 #[.val (.int p1)] [])) t → Steps p.tables e below (s₁.setTop (entryFrame m #[(.int p1)] 1)) t := fun t k => castTop (ef_1 m p1) k
  obtain ⟨T1, X1, e1, st1⟩ := getS2 X0 hx hZ hown (host := "") (Or.inl (ow hw 41 rfl)) Via.refl e0 S (g := (mkF m 109 #[.val (.int p1)] [])) rfl (hb hby d1_109)
  obtain ⟨fs, hr, hrun, hended, hW, hsame⟩ := X1.leave (v := some (.ref w)) (fun h => by rw [Bd.returns] at h; cases h)
  refine ⟨_, _, pre0 _ ?_, hrun, hended, _, _, rfl, ?_, ⟨_, rfl⟩, hW, hsame.mono (by decide) (by decide)⟩
  · show Steps p.tables e below (s₁.setTop (mkF m 0 #[.val (.int p1)] [])) _
    refine XS.iloadN X0.here hx rfl (hb hby d1_0) rfl ?_
    show Steps p.tables e below (s₁.setTop (mkF m 1 #[.val (.int p1)] [(.int p1)])) _
    refine XS.ifYes X0.here hx rfl (pc0 := 1) (pc' := 8) rfl (hb hby d1_1) rfl ((if0 _ _).trans (feq hc1).2) (by decide) (by decide) ?_
    show Steps p.tables e below (s₁.setTop (mkF m 8 #[.val (.int p1)] [])) _
    refine XS.iloadN X0.here hx rfl (hb hby d1_8) rfl ?_
    show Steps p.tables e below (s₁.setTop (mkF m 9 #[.val (.int p1)] [(.int p1)])) _
    refine XS.iconst X0.here hx rfl (hb hby d1_9) ?_
    show Steps p.tables e below (s₁.setTop (mkF m 10 #[.val (.int p1)] [(.int (1 : Int32)), (.int p1)])) _
    refine XS.icmpYes X0.here hx rfl (pc0 := 10) (pc' := 17) rfl (hb hby d1_10) rfl (feq hc10).2 (by decide) (by decide) ?_
    show Steps p.tables e below (s₁.setTop (mkF m 17 #[.val (.int p1)] [])) _
    refine XS.iloadN X0.here hx rfl (hb hby d1_17) rfl ?_
    show Steps p.tables e below (s₁.setTop (mkF m 18 #[.val (.int p1)] [(.int p1)])) _
    refine XS.iconst X0.here hx rfl (hb hby d1_18) ?_
    show Steps p.tables e below (s₁.setTop (mkF m 19 #[.val (.int p1)] [(.int (2 : Int32)), (.int p1)])) _
    refine XS.icmpYes X0.here hx rfl (pc0 := 19) (pc' := 26) rfl (hb hby d1_19) rfl (feq hc19).2 (by decide) (by decide) ?_
    show Steps p.tables e below (s₁.setTop (mkF m 26 #[.val (.int p1)] [])) _
    refine XS.iloadN X0.here hx rfl (hb hby d1_26) rfl ?_
    show Steps p.tables e below (s₁.setTop (mkF m 27 #[.val (.int p1)] [(.int p1)])) _
    refine XS.iconst X0.here hx rfl (hb hby d1_27) ?_
    show Steps p.tables e below (s₁.setTop (mkF m 28 #[.val (.int p1)] [(.int (3 : Int32)), (.int p1)])) _
    refine XS.icmpYes X0.here hx rfl (pc0 := 28) (pc' := 35) rfl (hb hby d1_28) rfl (feq hc28).2 (by decide) (by decide) ?_
    show Steps p.tables e below (s₁.setTop (mkF m 35 #[.val (.int p1)] [])) _
    refine XS.iloadN X0.here hx rfl (hb hby d1_35) rfl ?_
    show Steps p.tables e below (s₁.setTop (mkF m 36 #[.val (.int p1)] [(.int p1)])) _
    refine XS.iconst X0.here hx rfl (hb hby d1_36) ?_
    show Steps p.tables e below (s₁.setTop (mkF m 37 #[.val (.int p1)] [(.int (4 : Int32)), (.int p1)])) _
    refine XS.icmpYes X0.here hx rfl (pc0 := 37) (pc' := 44) rfl (hb hby d1_37) rfl (feq hc37).2 (by decide) (by decide) ?_
    show Steps p.tables e below (s₁.setTop (mkF m 44 #[.val (.int p1)] [])) _
    refine XS.iloadN X0.here hx rfl (hb hby d1_44) rfl ?_
    show Steps p.tables e below (s₁.setTop (mkF m 45 #[.val (.int p1)] [(.int p1)])) _
    refine XS.iconst X0.here hx rfl (hb hby d1_45) ?_
    show Steps p.tables e below (s₁.setTop (mkF m 46 #[.val (.int p1)] [(.int (5 : Int32)), (.int p1)])) _
    refine XS.icmpYes X0.here hx rfl (pc0 := 46) (pc' := 53) rfl (hb hby d1_46) rfl (feq hc46).2 (by decide) (by decide) ?_
    show Steps p.tables e below (s₁.setTop (mkF m 53 #[.val (.int p1)] [])) _
    refine XS.iloadN X0.here hx rfl (hb hby d1_53) rfl ?_
    show Steps p.tables e below (s₁.setTop (mkF m 54 #[.val (.int p1)] [(.int p1)])) _
    refine XS.bipush X0.here hx rfl (hb hby d1_54) ?_
    show Steps p.tables e below (s₁.setTop (mkF m 56 #[.val (.int p1)] [(.int (6 : Int32)), (.int p1)])) _
    refine XS.icmpYes X0.here hx rfl (pc0 := 56) (pc' := 63) rfl (hb hby d1_56) rfl (feq hc56).2 (by decide) (by decide) ?_
    show Steps p.tables e below (s₁.setTop (mkF m 63 #[.val (.int p1)] [])) _
    refine XS.iloadN X0.here hx rfl (hb hby d1_63) rfl ?_
    show Steps p.tables e below (s₁.setTop (mkF m 64 #[.val (.int p1)] [(.int p1)])) _
    refine XS.bipush X0.here hx rfl (hb hby d1_64) ?_
    show Steps p.tables e below (s₁.setTop (mkF m 66 #[.val (.int p1)] [(.int (7 : Int32)), (.int p1)])) _
    refine XS.icmpYes X0.here hx rfl (pc0 := 66) (pc' := 73) rfl (hb hby d1_66) rfl (feq hc66).2 (by decide) (by decide) ?_
    show Steps p.tables e below (s₁.setTop (mkF m 73 #[.val (.int p1)] [])) _
    refine XS.iloadN X0.here hx rfl (hb hby d1_73) rfl ?_
    show Steps p.tables e below (s₁.setTop (mkF m 74 #[.val (.int p1)] [(.int p1)])) _
    refine XS.bipush X0.here hx rfl (hb hby d1_74) ?_
    show Steps p.tables e below (s₁.setTop (mkF m 76 #[.val (.int p1)] [(.int (8 : Int32)), (.int p1)])) _
    refine XS.icmpYes X0.here hx rfl (pc0 := 76) (pc' := 83) rfl (hb hby d1_76) rfl (feq hc76).2 (by decide) (by decide) ?_
    show Steps p.tables e below (s₁.setTop (mkF m 83 #[.val (.int p1)] [])) _
    refine XS.iloadN X0.here hx rfl (hb hby d1_83) rfl ?_
    show Steps p.tables e below (s₁.setTop (mkF m 84 #[.val (.int p1)] [(.int p1)])) _
    refine XS.bipush X0.here hx rfl (hb hby d1_84) ?_
    show Steps p.tables e below (s₁.setTop (mkF m 86 #[.val (.int p1)] [(.int (9 : Int32)), (.int p1)])) _
    refine XS.icmpYes X0.here hx rfl (pc0 := 86) (pc' := 93) rfl (hb hby d1_86) rfl (feq hc86).2 (by decide) (by decide) ?_
    show Steps p.tables e below (s₁.setTop (mkF m 93 #[.val (.int p1)] [])) _
    refine XS.iloadN X0.here hx rfl (hb hby d1_93) rfl ?_
    show Steps p.tables e below (s₁.setTop (mkF m 94 #[.val (.int p1)] [(.int p1)])) _
    refine XS.bipush X0.here hx rfl (hb hby d1_94) ?_
    show Steps p.tables e below (s₁.setTop (mkF m 96 #[.val (.int p1)] [(.int (10 : Int32)), (.int p1)])) _
    refine XS.icmpYes X0.here hx rfl (pc0 := 96) (pc' := 103) rfl (hb hby d1_96) rfl (feq hc96).2 (by decide) (by decide) ?_
    show Steps p.tables e below (s₁.setTop (mkF m 103 #[.val (.int p1)] [])) _
    refine XS.iloadN X0.here hx rfl (hb hby d1_103) rfl ?_
    show Steps p.tables e below (s₁.setTop (mkF m 104 #[.val (.int p1)] [(.int p1)])) _
    refine XS.bipush X0.here hx rfl (hb hby d1_104) ?_
    show Steps p.tables e below (s₁.setTop (mkF m 106 #[.val (.int p1)] [(.int (11 : Int32)), (.int p1)])) _
    refine XS.icmpNo X0.here hx rfl (hb hby d1_106) rfl (teq hc106).2 ?_
    show Steps p.tables e below (s₁.setTop (mkF m 109 #[.val (.int p1)] [])) _
    refine st1 _ ?_
    show Steps p.tables e below (T1.setTop (mkF m 112 #[.val (.int p1)] [(.ref w)])) _
    exact retOut X1 hx Bd.returns rfl (Or.inr (Or.inr (Or.inr (Or.inr ⟨rfl, rfl, rfl⟩)))) (hb hby d1_112) hr
  · show QP (some (.ref w)) h0 n0 _ T1.heap _
    rw [e1]
    exact ⟨rfl, N0, rfl⟩
theorem d1_113 : decode method_2_code 113 = .ok (.iload_n 0, 1) := by decide +kernel
theorem d1_114 : decode method_2_code 114 = .ok (.bipush 12, 2) := by decide +kernel
theorem d1_116 : decode method_2_code 116 = .ok (.if_icmp .ne 7, 3) := by decide +kernel
theorem d1_119 : decode method_2_code 119 = .ok (.getstatic 46, 3) := by decide +kernel
theorem d1_122 : decode method_2_code 122 = .ok (.areturn, 1) := by decide +kernel
set_option maxRecDepth 65536 in
set_option maxHeartbeats 40000000 in
theorem rm1_12 (l : Launch) (Z : State) (a0 : Array Value) (hw : ∀ d ∈ tables_1, d.before a0 Z = true) (ws : List Jvm.Cond) (p1 : Int32) (w : Addr) (h0 : Heap) (n0 : Nat) (Z0 : n0 ≤ h0.size) (S : Sta Z h0 "com/example/tabulon/tabulon/document/CellType" "LIST" "Lcom/example/tabulon/tabulon/document/CellType;" (.ref w)) (hc1 : ¬ (p1 = (0 : Int32))) (hc10 : ¬ (p1 = (1 : Int32))) (hc19 : ¬ (p1 = (2 : Int32))) (hc28 : ¬ (p1 = (3 : Int32))) (hc37 : ¬ (p1 = (4 : Int32))) (hc46 : ¬ (p1 = (5 : Int32))) (hc56 : ¬ (p1 = (6 : Int32))) (hc66 : ¬ (p1 = (7 : Int32))) (hc76 : ¬ (p1 = (8 : Int32))) (hc86 : ¬ (p1 = (9 : Int32))) (hc96 : ¬ (p1 = (10 : Int32))) (hc106 : ¬ (p1 = (11 : Int32))) (hc116 : p1 = (12 : Int32)) :
    MetFree l nm_1 (head1 (Jvm.Cond.code nm_1 method_2_code 1 (some (.object "com/example/tabulon/tabulon/document/CellType")) :: ws) rr0) (fun aa U => aa = #[(.int p1)] ∧ Z.Warmed39 U.vm ∧ U.heap = h0) (fun _ _ _ _ _ => True) (fun _ U o U' => ∃ v L, o = .returned v ∧ QP (some (.ref w)) h0 n0 v U'.heap L ∧ FrameEnd U o U' L rr0.cells rr0.slots) := by
  refine MetFree.of_bodySF (plainFor_of_name pn_com_example_tabulon_tabulon_document_CellTypeHoldsNumberPinLaw) hisR ?_
  intro p e s m args below meth c s₁ Bd hml0 hP hK
  obtain ⟨rfl, hZ, hh⟩ := hP
  have hx := Bd.exec
  have hby := Bd.bytes
  have hml : c.maxLocals = 1 := hml0
  have hown : s.vm.findClass "com/example/tabulon/tabulon/document/CellTypeHoldsNumberPinLaw" = some m.cls := findClass_of_methodNamed Bd.named
  have hnm := (name_of_methodNamed Bd.named Bd.method).1
  have X0 : Stand p l e rr0 s m #[(.int p1)] below meth c s₁ [] 0 0 := Stand.of_body Bd
  have e0 : s₁.heap = h0 := by rw [← hh, Bd.state]; rfl
  have N0 := Fr.nil n0
  have pre0 : ∀ t, Steps p.tables e below (s₁.setTop (mkF m 0 #[.val (.int p1)] [])) t → Steps p.tables e below (s₁.setTop (entryFrame m #[(.int p1)] 1)) t := fun t k => castTop (ef_1 m p1) k
  obtain ⟨T1, X1, e1, st1⟩ := getS2 X0 hx hZ hown (host := "") (Or.inl (ow hw 48 rfl)) Via.refl e0 S (g := (mkF m 119 #[.val (.int p1)] [])) rfl (hb hby d1_119)
  obtain ⟨fs, hr, hrun, hended, hW, hsame⟩ := X1.leave (v := some (.ref w)) (fun h => by rw [Bd.returns] at h; cases h)
  refine ⟨_, _, pre0 _ ?_, hrun, hended, _, _, rfl, ?_, ⟨_, rfl⟩, hW, hsame.mono (by decide) (by decide)⟩
  · show Steps p.tables e below (s₁.setTop (mkF m 0 #[.val (.int p1)] [])) _
    refine XS.iloadN X0.here hx rfl (hb hby d1_0) rfl ?_
    show Steps p.tables e below (s₁.setTop (mkF m 1 #[.val (.int p1)] [(.int p1)])) _
    refine XS.ifYes X0.here hx rfl (pc0 := 1) (pc' := 8) rfl (hb hby d1_1) rfl ((if0 _ _).trans (feq hc1).2) (by decide) (by decide) ?_
    show Steps p.tables e below (s₁.setTop (mkF m 8 #[.val (.int p1)] [])) _
    refine XS.iloadN X0.here hx rfl (hb hby d1_8) rfl ?_
    show Steps p.tables e below (s₁.setTop (mkF m 9 #[.val (.int p1)] [(.int p1)])) _
    refine XS.iconst X0.here hx rfl (hb hby d1_9) ?_
    show Steps p.tables e below (s₁.setTop (mkF m 10 #[.val (.int p1)] [(.int (1 : Int32)), (.int p1)])) _
    refine XS.icmpYes X0.here hx rfl (pc0 := 10) (pc' := 17) rfl (hb hby d1_10) rfl (feq hc10).2 (by decide) (by decide) ?_
    show Steps p.tables e below (s₁.setTop (mkF m 17 #[.val (.int p1)] [])) _
    refine XS.iloadN X0.here hx rfl (hb hby d1_17) rfl ?_
    show Steps p.tables e below (s₁.setTop (mkF m 18 #[.val (.int p1)] [(.int p1)])) _
    refine XS.iconst X0.here hx rfl (hb hby d1_18) ?_
    show Steps p.tables e below (s₁.setTop (mkF m 19 #[.val (.int p1)] [(.int (2 : Int32)), (.int p1)])) _
    refine XS.icmpYes X0.here hx rfl (pc0 := 19) (pc' := 26) rfl (hb hby d1_19) rfl (feq hc19).2 (by decide) (by decide) ?_
    show Steps p.tables e below (s₁.setTop (mkF m 26 #[.val (.int p1)] [])) _
    refine XS.iloadN X0.here hx rfl (hb hby d1_26) rfl ?_
    show Steps p.tables e below (s₁.setTop (mkF m 27 #[.val (.int p1)] [(.int p1)])) _
    refine XS.iconst X0.here hx rfl (hb hby d1_27) ?_
    show Steps p.tables e below (s₁.setTop (mkF m 28 #[.val (.int p1)] [(.int (3 : Int32)), (.int p1)])) _
    refine XS.icmpYes X0.here hx rfl (pc0 := 28) (pc' := 35) rfl (hb hby d1_28) rfl (feq hc28).2 (by decide) (by decide) ?_
    show Steps p.tables e below (s₁.setTop (mkF m 35 #[.val (.int p1)] [])) _
    refine XS.iloadN X0.here hx rfl (hb hby d1_35) rfl ?_
    show Steps p.tables e below (s₁.setTop (mkF m 36 #[.val (.int p1)] [(.int p1)])) _
    refine XS.iconst X0.here hx rfl (hb hby d1_36) ?_
    show Steps p.tables e below (s₁.setTop (mkF m 37 #[.val (.int p1)] [(.int (4 : Int32)), (.int p1)])) _
    refine XS.icmpYes X0.here hx rfl (pc0 := 37) (pc' := 44) rfl (hb hby d1_37) rfl (feq hc37).2 (by decide) (by decide) ?_
    show Steps p.tables e below (s₁.setTop (mkF m 44 #[.val (.int p1)] [])) _
    refine XS.iloadN X0.here hx rfl (hb hby d1_44) rfl ?_
    show Steps p.tables e below (s₁.setTop (mkF m 45 #[.val (.int p1)] [(.int p1)])) _
    refine XS.iconst X0.here hx rfl (hb hby d1_45) ?_
    show Steps p.tables e below (s₁.setTop (mkF m 46 #[.val (.int p1)] [(.int (5 : Int32)), (.int p1)])) _
    refine XS.icmpYes X0.here hx rfl (pc0 := 46) (pc' := 53) rfl (hb hby d1_46) rfl (feq hc46).2 (by decide) (by decide) ?_
    show Steps p.tables e below (s₁.setTop (mkF m 53 #[.val (.int p1)] [])) _
    refine XS.iloadN X0.here hx rfl (hb hby d1_53) rfl ?_
    show Steps p.tables e below (s₁.setTop (mkF m 54 #[.val (.int p1)] [(.int p1)])) _
    refine XS.bipush X0.here hx rfl (hb hby d1_54) ?_
    show Steps p.tables e below (s₁.setTop (mkF m 56 #[.val (.int p1)] [(.int (6 : Int32)), (.int p1)])) _
    refine XS.icmpYes X0.here hx rfl (pc0 := 56) (pc' := 63) rfl (hb hby d1_56) rfl (feq hc56).2 (by decide) (by decide) ?_
    show Steps p.tables e below (s₁.setTop (mkF m 63 #[.val (.int p1)] [])) _
    refine XS.iloadN X0.here hx rfl (hb hby d1_63) rfl ?_
    show Steps p.tables e below (s₁.setTop (mkF m 64 #[.val (.int p1)] [(.int p1)])) _
    refine XS.bipush X0.here hx rfl (hb hby d1_64) ?_
    show Steps p.tables e below (s₁.setTop (mkF m 66 #[.val (.int p1)] [(.int (7 : Int32)), (.int p1)])) _
    refine XS.icmpYes X0.here hx rfl (pc0 := 66) (pc' := 73) rfl (hb hby d1_66) rfl (feq hc66).2 (by decide) (by decide) ?_
    show Steps p.tables e below (s₁.setTop (mkF m 73 #[.val (.int p1)] [])) _
    refine XS.iloadN X0.here hx rfl (hb hby d1_73) rfl ?_
    show Steps p.tables e below (s₁.setTop (mkF m 74 #[.val (.int p1)] [(.int p1)])) _
    refine XS.bipush X0.here hx rfl (hb hby d1_74) ?_
    show Steps p.tables e below (s₁.setTop (mkF m 76 #[.val (.int p1)] [(.int (8 : Int32)), (.int p1)])) _
    refine XS.icmpYes X0.here hx rfl (pc0 := 76) (pc' := 83) rfl (hb hby d1_76) rfl (feq hc76).2 (by decide) (by decide) ?_
    show Steps p.tables e below (s₁.setTop (mkF m 83 #[.val (.int p1)] [])) _
    refine XS.iloadN X0.here hx rfl (hb hby d1_83) rfl ?_
    show Steps p.tables e below (s₁.setTop (mkF m 84 #[.val (.int p1)] [(.int p1)])) _
    refine XS.bipush X0.here hx rfl (hb hby d1_84) ?_
    show Steps p.tables e below (s₁.setTop (mkF m 86 #[.val (.int p1)] [(.int (9 : Int32)), (.int p1)])) _
    refine XS.icmpYes X0.here hx rfl (pc0 := 86) (pc' := 93) rfl (hb hby d1_86) rfl (feq hc86).2 (by decide) (by decide) ?_
    show Steps p.tables e below (s₁.setTop (mkF m 93 #[.val (.int p1)] [])) _
    refine XS.iloadN X0.here hx rfl (hb hby d1_93) rfl ?_
    show Steps p.tables e below (s₁.setTop (mkF m 94 #[.val (.int p1)] [(.int p1)])) _
    refine XS.bipush X0.here hx rfl (hb hby d1_94) ?_
    show Steps p.tables e below (s₁.setTop (mkF m 96 #[.val (.int p1)] [(.int (10 : Int32)), (.int p1)])) _
    refine XS.icmpYes X0.here hx rfl (pc0 := 96) (pc' := 103) rfl (hb hby d1_96) rfl (feq hc96).2 (by decide) (by decide) ?_
    show Steps p.tables e below (s₁.setTop (mkF m 103 #[.val (.int p1)] [])) _
    refine XS.iloadN X0.here hx rfl (hb hby d1_103) rfl ?_
    show Steps p.tables e below (s₁.setTop (mkF m 104 #[.val (.int p1)] [(.int p1)])) _
    refine XS.bipush X0.here hx rfl (hb hby d1_104) ?_
    show Steps p.tables e below (s₁.setTop (mkF m 106 #[.val (.int p1)] [(.int (11 : Int32)), (.int p1)])) _
    refine XS.icmpYes X0.here hx rfl (pc0 := 106) (pc' := 113) rfl (hb hby d1_106) rfl (feq hc106).2 (by decide) (by decide) ?_
    show Steps p.tables e below (s₁.setTop (mkF m 113 #[.val (.int p1)] [])) _
    refine XS.iloadN X0.here hx rfl (hb hby d1_113) rfl ?_
    show Steps p.tables e below (s₁.setTop (mkF m 114 #[.val (.int p1)] [(.int p1)])) _
    refine XS.bipush X0.here hx rfl (hb hby d1_114) ?_
    show Steps p.tables e below (s₁.setTop (mkF m 116 #[.val (.int p1)] [(.int (12 : Int32)), (.int p1)])) _
    refine XS.icmpNo X0.here hx rfl (hb hby d1_116) rfl (teq hc116).2 ?_
    show Steps p.tables e below (s₁.setTop (mkF m 119 #[.val (.int p1)] [])) _
    refine st1 _ ?_
    show Steps p.tables e below (T1.setTop (mkF m 122 #[.val (.int p1)] [(.ref w)])) _
    exact retOut X1 hx Bd.returns rfl (Or.inr (Or.inr (Or.inr (Or.inr ⟨rfl, rfl, rfl⟩)))) (hb hby d1_122) hr
  · show QP (some (.ref w)) h0 n0 _ T1.heap _
    rw [e1]
    exact ⟨rfl, N0, rfl⟩
theorem d1_123 : decode method_2_code 123 = .ok (.iload_n 0, 1) := by decide +kernel
theorem d1_124 : decode method_2_code 124 = .ok (.bipush 13, 2) := by decide +kernel
theorem d1_126 : decode method_2_code 126 = .ok (.if_icmp .ne 7, 3) := by decide +kernel
theorem d1_129 : decode method_2_code 129 = .ok (.getstatic 49, 3) := by decide +kernel
theorem d1_132 : decode method_2_code 132 = .ok (.areturn, 1) := by decide +kernel
set_option maxRecDepth 65536 in
set_option maxHeartbeats 40000000 in
theorem rm1_13 (l : Launch) (Z : State) (a0 : Array Value) (hw : ∀ d ∈ tables_1, d.before a0 Z = true) (ws : List Jvm.Cond) (p1 : Int32) (w : Addr) (h0 : Heap) (n0 : Nat) (Z0 : n0 ≤ h0.size) (S : Sta Z h0 "com/example/tabulon/tabulon/document/CellType" "JSON" "Lcom/example/tabulon/tabulon/document/CellType;" (.ref w)) (hc1 : ¬ (p1 = (0 : Int32))) (hc10 : ¬ (p1 = (1 : Int32))) (hc19 : ¬ (p1 = (2 : Int32))) (hc28 : ¬ (p1 = (3 : Int32))) (hc37 : ¬ (p1 = (4 : Int32))) (hc46 : ¬ (p1 = (5 : Int32))) (hc56 : ¬ (p1 = (6 : Int32))) (hc66 : ¬ (p1 = (7 : Int32))) (hc76 : ¬ (p1 = (8 : Int32))) (hc86 : ¬ (p1 = (9 : Int32))) (hc96 : ¬ (p1 = (10 : Int32))) (hc106 : ¬ (p1 = (11 : Int32))) (hc116 : ¬ (p1 = (12 : Int32))) (hc126 : p1 = (13 : Int32)) :
    MetFree l nm_1 (head1 (Jvm.Cond.code nm_1 method_2_code 1 (some (.object "com/example/tabulon/tabulon/document/CellType")) :: ws) rr0) (fun aa U => aa = #[(.int p1)] ∧ Z.Warmed39 U.vm ∧ U.heap = h0) (fun _ _ _ _ _ => True) (fun _ U o U' => ∃ v L, o = .returned v ∧ QP (some (.ref w)) h0 n0 v U'.heap L ∧ FrameEnd U o U' L rr0.cells rr0.slots) := by
  refine MetFree.of_bodySF (plainFor_of_name pn_com_example_tabulon_tabulon_document_CellTypeHoldsNumberPinLaw) hisR ?_
  intro p e s m args below meth c s₁ Bd hml0 hP hK
  obtain ⟨rfl, hZ, hh⟩ := hP
  have hx := Bd.exec
  have hby := Bd.bytes
  have hml : c.maxLocals = 1 := hml0
  have hown : s.vm.findClass "com/example/tabulon/tabulon/document/CellTypeHoldsNumberPinLaw" = some m.cls := findClass_of_methodNamed Bd.named
  have hnm := (name_of_methodNamed Bd.named Bd.method).1
  have X0 : Stand p l e rr0 s m #[(.int p1)] below meth c s₁ [] 0 0 := Stand.of_body Bd
  have e0 : s₁.heap = h0 := by rw [← hh, Bd.state]; rfl
  have N0 := Fr.nil n0
  have pre0 : ∀ t, Steps p.tables e below (s₁.setTop (mkF m 0 #[.val (.int p1)] [])) t → Steps p.tables e below (s₁.setTop (entryFrame m #[(.int p1)] 1)) t := fun t k => castTop (ef_1 m p1) k
  obtain ⟨T1, X1, e1, st1⟩ := getS2 X0 hx hZ hown (host := "") (Or.inl (ow hw 34 rfl)) Via.refl e0 S (g := (mkF m 129 #[.val (.int p1)] [])) rfl (hb hby d1_129)
  obtain ⟨fs, hr, hrun, hended, hW, hsame⟩ := X1.leave (v := some (.ref w)) (fun h => by rw [Bd.returns] at h; cases h)
  refine ⟨_, _, pre0 _ ?_, hrun, hended, _, _, rfl, ?_, ⟨_, rfl⟩, hW, hsame.mono (by decide) (by decide)⟩
  · show Steps p.tables e below (s₁.setTop (mkF m 0 #[.val (.int p1)] [])) _
    refine XS.iloadN X0.here hx rfl (hb hby d1_0) rfl ?_
    show Steps p.tables e below (s₁.setTop (mkF m 1 #[.val (.int p1)] [(.int p1)])) _
    refine XS.ifYes X0.here hx rfl (pc0 := 1) (pc' := 8) rfl (hb hby d1_1) rfl ((if0 _ _).trans (feq hc1).2) (by decide) (by decide) ?_
    show Steps p.tables e below (s₁.setTop (mkF m 8 #[.val (.int p1)] [])) _
    refine XS.iloadN X0.here hx rfl (hb hby d1_8) rfl ?_
    show Steps p.tables e below (s₁.setTop (mkF m 9 #[.val (.int p1)] [(.int p1)])) _
    refine XS.iconst X0.here hx rfl (hb hby d1_9) ?_
    show Steps p.tables e below (s₁.setTop (mkF m 10 #[.val (.int p1)] [(.int (1 : Int32)), (.int p1)])) _
    refine XS.icmpYes X0.here hx rfl (pc0 := 10) (pc' := 17) rfl (hb hby d1_10) rfl (feq hc10).2 (by decide) (by decide) ?_
    show Steps p.tables e below (s₁.setTop (mkF m 17 #[.val (.int p1)] [])) _
    refine XS.iloadN X0.here hx rfl (hb hby d1_17) rfl ?_
    show Steps p.tables e below (s₁.setTop (mkF m 18 #[.val (.int p1)] [(.int p1)])) _
    refine XS.iconst X0.here hx rfl (hb hby d1_18) ?_
    show Steps p.tables e below (s₁.setTop (mkF m 19 #[.val (.int p1)] [(.int (2 : Int32)), (.int p1)])) _
    refine XS.icmpYes X0.here hx rfl (pc0 := 19) (pc' := 26) rfl (hb hby d1_19) rfl (feq hc19).2 (by decide) (by decide) ?_
    show Steps p.tables e below (s₁.setTop (mkF m 26 #[.val (.int p1)] [])) _
    refine XS.iloadN X0.here hx rfl (hb hby d1_26) rfl ?_
    show Steps p.tables e below (s₁.setTop (mkF m 27 #[.val (.int p1)] [(.int p1)])) _
    refine XS.iconst X0.here hx rfl (hb hby d1_27) ?_
    show Steps p.tables e below (s₁.setTop (mkF m 28 #[.val (.int p1)] [(.int (3 : Int32)), (.int p1)])) _
    refine XS.icmpYes X0.here hx rfl (pc0 := 28) (pc' := 35) rfl (hb hby d1_28) rfl (feq hc28).2 (by decide) (by decide) ?_
    show Steps p.tables e below (s₁.setTop (mkF m 35 #[.val (.int p1)] [])) _
    refine XS.iloadN X0.here hx rfl (hb hby d1_35) rfl ?_
    show Steps p.tables e below (s₁.setTop (mkF m 36 #[.val (.int p1)] [(.int p1)])) _
    refine XS.iconst X0.here hx rfl (hb hby d1_36) ?_
    show Steps p.tables e below (s₁.setTop (mkF m 37 #[.val (.int p1)] [(.int (4 : Int32)), (.int p1)])) _
    refine XS.icmpYes X0.here hx rfl (pc0 := 37) (pc' := 44) rfl (hb hby d1_37) rfl (feq hc37).2 (by decide) (by decide) ?_
    show Steps p.tables e below (s₁.setTop (mkF m 44 #[.val (.int p1)] [])) _
    refine XS.iloadN X0.here hx rfl (hb hby d1_44) rfl ?_
    show Steps p.tables e below (s₁.setTop (mkF m 45 #[.val (.int p1)] [(.int p1)])) _
    refine XS.iconst X0.here hx rfl (hb hby d1_45) ?_
    show Steps p.tables e below (s₁.setTop (mkF m 46 #[.val (.int p1)] [(.int (5 : Int32)), (.int p1)])) _
    refine XS.icmpYes X0.here hx rfl (pc0 := 46) (pc' := 53) rfl (hb hby d1_46) rfl (feq hc46).2 (by decide) (by decide) ?_
    show Steps p.tables e below (s₁.setTop (mkF m 53 #[.val (.int p1)] [])) _
    refine XS.iloadN X0.here hx rfl (hb hby d1_53) rfl ?_
    show Steps p.tables e below (s₁.setTop (mkF m 54 #[.val (.int p1)] [(.int p1)])) _
    refine XS.bipush X0.here hx rfl (hb hby d1_54) ?_
    show Steps p.tables e below (s₁.setTop (mkF m 56 #[.val (.int p1)] [(.int (6 : Int32)), (.int p1)])) _
    refine XS.icmpYes X0.here hx rfl (pc0 := 56) (pc' := 63) rfl (hb hby d1_56) rfl (feq hc56).2 (by decide) (by decide) ?_
    show Steps p.tables e below (s₁.setTop (mkF m 63 #[.val (.int p1)] [])) _
    refine XS.iloadN X0.here hx rfl (hb hby d1_63) rfl ?_
    show Steps p.tables e below (s₁.setTop (mkF m 64 #[.val (.int p1)] [(.int p1)])) _
    refine XS.bipush X0.here hx rfl (hb hby d1_64) ?_
    show Steps p.tables e below (s₁.setTop (mkF m 66 #[.val (.int p1)] [(.int (7 : Int32)), (.int p1)])) _
    refine XS.icmpYes X0.here hx rfl (pc0 := 66) (pc' := 73) rfl (hb hby d1_66) rfl (feq hc66).2 (by decide) (by decide) ?_
    show Steps p.tables e below (s₁.setTop (mkF m 73 #[.val (.int p1)] [])) _
    refine XS.iloadN X0.here hx rfl (hb hby d1_73) rfl ?_
    show Steps p.tables e below (s₁.setTop (mkF m 74 #[.val (.int p1)] [(.int p1)])) _
    refine XS.bipush X0.here hx rfl (hb hby d1_74) ?_
    show Steps p.tables e below (s₁.setTop (mkF m 76 #[.val (.int p1)] [(.int (8 : Int32)), (.int p1)])) _
    refine XS.icmpYes X0.here hx rfl (pc0 := 76) (pc' := 83) rfl (hb hby d1_76) rfl (feq hc76).2 (by decide) (by decide) ?_
    show Steps p.tables e below (s₁.setTop (mkF m 83 #[.val (.int p1)] [])) _
    refine XS.iloadN X0.here hx rfl (hb hby d1_83) rfl ?_
    show Steps p.tables e below (s₁.setTop (mkF m 84 #[.val (.int p1)] [(.int p1)])) _
    refine XS.bipush X0.here hx rfl (hb hby d1_84) ?_
    show Steps p.tables e below (s₁.setTop (mkF m 86 #[.val (.int p1)] [(.int (9 : Int32)), (.int p1)])) _
    refine XS.icmpYes X0.here hx rfl (pc0 := 86) (pc' := 93) rfl (hb hby d1_86) rfl (feq hc86).2 (by decide) (by decide) ?_
    show Steps p.tables e below (s₁.setTop (mkF m 93 #[.val (.int p1)] [])) _
    refine XS.iloadN X0.here hx rfl (hb hby d1_93) rfl ?_
    show Steps p.tables e below (s₁.setTop (mkF m 94 #[.val (.int p1)] [(.int p1)])) _
    refine XS.bipush X0.here hx rfl (hb hby d1_94) ?_
    show Steps p.tables e below (s₁.setTop (mkF m 96 #[.val (.int p1)] [(.int (10 : Int32)), (.int p1)])) _
    refine XS.icmpYes X0.here hx rfl (pc0 := 96) (pc' := 103) rfl (hb hby d1_96) rfl (feq hc96).2 (by decide) (by decide) ?_
    show Steps p.tables e below (s₁.setTop (mkF m 103 #[.val (.int p1)] [])) _
    refine XS.iloadN X0.here hx rfl (hb hby d1_103) rfl ?_
    show Steps p.tables e below (s₁.setTop (mkF m 104 #[.val (.int p1)] [(.int p1)])) _
    refine XS.bipush X0.here hx rfl (hb hby d1_104) ?_
    show Steps p.tables e below (s₁.setTop (mkF m 106 #[.val (.int p1)] [(.int (11 : Int32)), (.int p1)])) _
    refine XS.icmpYes X0.here hx rfl (pc0 := 106) (pc' := 113) rfl (hb hby d1_106) rfl (feq hc106).2 (by decide) (by decide) ?_
    show Steps p.tables e below (s₁.setTop (mkF m 113 #[.val (.int p1)] [])) _
    refine XS.iloadN X0.here hx rfl (hb hby d1_113) rfl ?_
    show Steps p.tables e below (s₁.setTop (mkF m 114 #[.val (.int p1)] [(.int p1)])) _
    refine XS.bipush X0.here hx rfl (hb hby d1_114) ?_
    show Steps p.tables e below (s₁.setTop (mkF m 116 #[.val (.int p1)] [(.int (12 : Int32)), (.int p1)])) _
    refine XS.icmpYes X0.here hx rfl (pc0 := 116) (pc' := 123) rfl (hb hby d1_116) rfl (feq hc116).2 (by decide) (by decide) ?_
    show Steps p.tables e below (s₁.setTop (mkF m 123 #[.val (.int p1)] [])) _
    refine XS.iloadN X0.here hx rfl (hb hby d1_123) rfl ?_
    show Steps p.tables e below (s₁.setTop (mkF m 124 #[.val (.int p1)] [(.int p1)])) _
    refine XS.bipush X0.here hx rfl (hb hby d1_124) ?_
    show Steps p.tables e below (s₁.setTop (mkF m 126 #[.val (.int p1)] [(.int (13 : Int32)), (.int p1)])) _
    refine XS.icmpNo X0.here hx rfl (hb hby d1_126) rfl (teq hc126).2 ?_
    show Steps p.tables e below (s₁.setTop (mkF m 129 #[.val (.int p1)] [])) _
    refine st1 _ ?_
    show Steps p.tables e below (T1.setTop (mkF m 132 #[.val (.int p1)] [(.ref w)])) _
    exact retOut X1 hx Bd.returns rfl (Or.inr (Or.inr (Or.inr (Or.inr ⟨rfl, rfl, rfl⟩)))) (hb hby d1_132) hr
  · show QP (some (.ref w)) h0 n0 _ T1.heap _
    rw [e1]
    exact ⟨rfl, N0, rfl⟩
theorem d1_133 : decode method_2_code 133 = .ok (.getstatic 52, 3) := by decide +kernel
theorem d1_136 : decode method_2_code 136 = .ok (.areturn, 1) := by decide +kernel
set_option maxRecDepth 65536 in
set_option maxHeartbeats 40000000 in
theorem rm1_14 (l : Launch) (Z : State) (a0 : Array Value) (hw : ∀ d ∈ tables_1, d.before a0 Z = true) (ws : List Jvm.Cond) (p1 : Int32) (w : Addr) (h0 : Heap) (n0 : Nat) (Z0 : n0 ≤ h0.size) (S : Sta Z h0 "com/example/tabulon/tabulon/document/CellType" "ERROR" "Lcom/example/tabulon/tabulon/document/CellType;" (.ref w)) (hc1 : ¬ (p1 = (0 : Int32))) (hc10 : ¬ (p1 = (1 : Int32))) (hc19 : ¬ (p1 = (2 : Int32))) (hc28 : ¬ (p1 = (3 : Int32))) (hc37 : ¬ (p1 = (4 : Int32))) (hc46 : ¬ (p1 = (5 : Int32))) (hc56 : ¬ (p1 = (6 : Int32))) (hc66 : ¬ (p1 = (7 : Int32))) (hc76 : ¬ (p1 = (8 : Int32))) (hc86 : ¬ (p1 = (9 : Int32))) (hc96 : ¬ (p1 = (10 : Int32))) (hc106 : ¬ (p1 = (11 : Int32))) (hc116 : ¬ (p1 = (12 : Int32))) (hc126 : ¬ (p1 = (13 : Int32))) :
    MetFree l nm_1 (head1 (Jvm.Cond.code nm_1 method_2_code 1 (some (.object "com/example/tabulon/tabulon/document/CellType")) :: ws) rr0) (fun aa U => aa = #[(.int p1)] ∧ Z.Warmed39 U.vm ∧ U.heap = h0) (fun _ _ _ _ _ => True) (fun _ U o U' => ∃ v L, o = .returned v ∧ QP (some (.ref w)) h0 n0 v U'.heap L ∧ FrameEnd U o U' L rr0.cells rr0.slots) := by
  refine MetFree.of_bodySF (plainFor_of_name pn_com_example_tabulon_tabulon_document_CellTypeHoldsNumberPinLaw) hisR ?_
  intro p e s m args below meth c s₁ Bd hml0 hP hK
  obtain ⟨rfl, hZ, hh⟩ := hP
  have hx := Bd.exec
  have hby := Bd.bytes
  have hml : c.maxLocals = 1 := hml0
  have hown : s.vm.findClass "com/example/tabulon/tabulon/document/CellTypeHoldsNumberPinLaw" = some m.cls := findClass_of_methodNamed Bd.named
  have hnm := (name_of_methodNamed Bd.named Bd.method).1
  have X0 : Stand p l e rr0 s m #[(.int p1)] below meth c s₁ [] 0 0 := Stand.of_body Bd
  have e0 : s₁.heap = h0 := by rw [← hh, Bd.state]; rfl
  have N0 := Fr.nil n0
  have pre0 : ∀ t, Steps p.tables e below (s₁.setTop (mkF m 0 #[.val (.int p1)] [])) t → Steps p.tables e below (s₁.setTop (entryFrame m #[(.int p1)] 1)) t := fun t k => castTop (ef_1 m p1) k
  obtain ⟨T1, X1, e1, st1⟩ := getS2 X0 hx hZ hown (host := "") (Or.inl (ow hw 36 rfl)) Via.refl e0 S (g := (mkF m 133 #[.val (.int p1)] [])) rfl (hb hby d1_133)
  obtain ⟨fs, hr, hrun, hended, hW, hsame⟩ := X1.leave (v := some (.ref w)) (fun h => by rw [Bd.returns] at h; cases h)
  refine ⟨_, _, pre0 _ ?_, hrun, hended, _, _, rfl, ?_, ⟨_, rfl⟩, hW, hsame.mono (by decide) (by decide)⟩
  · show Steps p.tables e below (s₁.setTop (mkF m 0 #[.val (.int p1)] [])) _
    refine XS.iloadN X0.here hx rfl (hb hby d1_0) rfl ?_
    show Steps p.tables e below (s₁.setTop (mkF m 1 #[.val (.int p1)] [(.int p1)])) _
    refine XS.ifYes X0.here hx rfl (pc0 := 1) (pc' := 8) rfl (hb hby d1_1) rfl ((if0 _ _).trans (feq hc1).2) (by decide) (by decide) ?_
    show Steps p.tables e below (s₁.setTop (mkF m 8 #[.val (.int p1)] [])) _
    refine XS.iloadN X0.here hx rfl (hb hby d1_8) rfl ?_
    show Steps p.tables e below (s₁.setTop (mkF m 9 #[.val (.int p1)] [(.int p1)])) _
    refine XS.iconst X0.here hx rfl (hb hby d1_9) ?_
    show Steps p.tables e below (s₁.setTop (mkF m 10 #[.val (.int p1)] [(.int (1 : Int32)), (.int p1)])) _
    refine XS.icmpYes X0.here hx rfl (pc0 := 10) (pc' := 17) rfl (hb hby d1_10) rfl (feq hc10).2 (by decide) (by decide) ?_
    show Steps p.tables e below (s₁.setTop (mkF m 17 #[.val (.int p1)] [])) _
    refine XS.iloadN X0.here hx rfl (hb hby d1_17) rfl ?_
    show Steps p.tables e below (s₁.setTop (mkF m 18 #[.val (.int p1)] [(.int p1)])) _
    refine XS.iconst X0.here hx rfl (hb hby d1_18) ?_
    show Steps p.tables e below (s₁.setTop (mkF m 19 #[.val (.int p1)] [(.int (2 : Int32)), (.int p1)])) _
    refine XS.icmpYes X0.here hx rfl (pc0 := 19) (pc' := 26) rfl (hb hby d1_19) rfl (feq hc19).2 (by decide) (by decide) ?_
    show Steps p.tables e below (s₁.setTop (mkF m 26 #[.val (.int p1)] [])) _
    refine XS.iloadN X0.here hx rfl (hb hby d1_26) rfl ?_
    show Steps p.tables e below (s₁.setTop (mkF m 27 #[.val (.int p1)] [(.int p1)])) _
    refine XS.iconst X0.here hx rfl (hb hby d1_27) ?_
    show Steps p.tables e below (s₁.setTop (mkF m 28 #[.val (.int p1)] [(.int (3 : Int32)), (.int p1)])) _
    refine XS.icmpYes X0.here hx rfl (pc0 := 28) (pc' := 35) rfl (hb hby d1_28) rfl (feq hc28).2 (by decide) (by decide) ?_
    show Steps p.tables e below (s₁.setTop (mkF m 35 #[.val (.int p1)] [])) _
    refine XS.iloadN X0.here hx rfl (hb hby d1_35) rfl ?_
    show Steps p.tables e below (s₁.setTop (mkF m 36 #[.val (.int p1)] [(.int p1)])) _
    refine XS.iconst X0.here hx rfl (hb hby d1_36) ?_
    show Steps p.tables e below (s₁.setTop (mkF m 37 #[.val (.int p1)] [(.int (4 : Int32)), (.int p1)])) _
    refine XS.icmpYes X0.here hx rfl (pc0 := 37) (pc' := 44) rfl (hb hby d1_37) rfl (feq hc37).2 (by decide) (by decide) ?_
    show Steps p.tables e below (s₁.setTop (mkF m 44 #[.val (.int p1)] [])) _
    refine XS.iloadN X0.here hx rfl (hb hby d1_44) rfl ?_
    show Steps p.tables e below (s₁.setTop (mkF m 45 #[.val (.int p1)] [(.int p1)])) _
    refine XS.iconst X0.here hx rfl (hb hby d1_45) ?_
    show Steps p.tables e below (s₁.setTop (mkF m 46 #[.val (.int p1)] [(.int (5 : Int32)), (.int p1)])) _
    refine XS.icmpYes X0.here hx rfl (pc0 := 46) (pc' := 53) rfl (hb hby d1_46) rfl (feq hc46).2 (by decide) (by decide) ?_
    show Steps p.tables e below (s₁.setTop (mkF m 53 #[.val (.int p1)] [])) _
    refine XS.iloadN X0.here hx rfl (hb hby d1_53) rfl ?_
    show Steps p.tables e below (s₁.setTop (mkF m 54 #[.val (.int p1)] [(.int p1)])) _
    refine XS.bipush X0.here hx rfl (hb hby d1_54) ?_
    show Steps p.tables e below (s₁.setTop (mkF m 56 #[.val (.int p1)] [(.int (6 : Int32)), (.int p1)])) _
    refine XS.icmpYes X0.here hx rfl (pc0 := 56) (pc' := 63) rfl (hb hby d1_56) rfl (feq hc56).2 (by decide) (by decide) ?_
    show Steps p.tables e below (s₁.setTop (mkF m 63 #[.val (.int p1)] [])) _
    refine XS.iloadN X0.here hx rfl (hb hby d1_63) rfl ?_
    show Steps p.tables e below (s₁.setTop (mkF m 64 #[.val (.int p1)] [(.int p1)])) _
    refine XS.bipush X0.here hx rfl (hb hby d1_64) ?_
    show Steps p.tables e below (s₁.setTop (mkF m 66 #[.val (.int p1)] [(.int (7 : Int32)), (.int p1)])) _
    refine XS.icmpYes X0.here hx rfl (pc0 := 66) (pc' := 73) rfl (hb hby d1_66) rfl (feq hc66).2 (by decide) (by decide) ?_
    show Steps p.tables e below (s₁.setTop (mkF m 73 #[.val (.int p1)] [])) _
    refine XS.iloadN X0.here hx rfl (hb hby d1_73) rfl ?_
    show Steps p.tables e below (s₁.setTop (mkF m 74 #[.val (.int p1)] [(.int p1)])) _
    refine XS.bipush X0.here hx rfl (hb hby d1_74) ?_
    show Steps p.tables e below (s₁.setTop (mkF m 76 #[.val (.int p1)] [(.int (8 : Int32)), (.int p1)])) _
    refine XS.icmpYes X0.here hx rfl (pc0 := 76) (pc' := 83) rfl (hb hby d1_76) rfl (feq hc76).2 (by decide) (by decide) ?_
    show Steps p.tables e below (s₁.setTop (mkF m 83 #[.val (.int p1)] [])) _
    refine XS.iloadN X0.here hx rfl (hb hby d1_83) rfl ?_
    show Steps p.tables e below (s₁.setTop (mkF m 84 #[.val (.int p1)] [(.int p1)])) _
    refine XS.bipush X0.here hx rfl (hb hby d1_84) ?_
    show Steps p.tables e below (s₁.setTop (mkF m 86 #[.val (.int p1)] [(.int (9 : Int32)), (.int p1)])) _
    refine XS.icmpYes X0.here hx rfl (pc0 := 86) (pc' := 93) rfl (hb hby d1_86) rfl (feq hc86).2 (by decide) (by decide) ?_
    show Steps p.tables e below (s₁.setTop (mkF m 93 #[.val (.int p1)] [])) _
    refine XS.iloadN X0.here hx rfl (hb hby d1_93) rfl ?_
    show Steps p.tables e below (s₁.setTop (mkF m 94 #[.val (.int p1)] [(.int p1)])) _
    refine XS.bipush X0.here hx rfl (hb hby d1_94) ?_
    show Steps p.tables e below (s₁.setTop (mkF m 96 #[.val (.int p1)] [(.int (10 : Int32)), (.int p1)])) _
    refine XS.icmpYes X0.here hx rfl (pc0 := 96) (pc' := 103) rfl (hb hby d1_96) rfl (feq hc96).2 (by decide) (by decide) ?_
    show Steps p.tables e below (s₁.setTop (mkF m 103 #[.val (.int p1)] [])) _
    refine XS.iloadN X0.here hx rfl (hb hby d1_103) rfl ?_
    show Steps p.tables e below (s₁.setTop (mkF m 104 #[.val (.int p1)] [(.int p1)])) _
    refine XS.bipush X0.here hx rfl (hb hby d1_104) ?_
    show Steps p.tables e below (s₁.setTop (mkF m 106 #[.val (.int p1)] [(.int (11 : Int32)), (.int p1)])) _
    refine XS.icmpYes X0.here hx rfl (pc0 := 106) (pc' := 113) rfl (hb hby d1_106) rfl (feq hc106).2 (by decide) (by decide) ?_
    show Steps p.tables e below (s₁.setTop (mkF m 113 #[.val (.int p1)] [])) _
    refine XS.iloadN X0.here hx rfl (hb hby d1_113) rfl ?_
    show Steps p.tables e below (s₁.setTop (mkF m 114 #[.val (.int p1)] [(.int p1)])) _
    refine XS.bipush X0.here hx rfl (hb hby d1_114) ?_
    show Steps p.tables e below (s₁.setTop (mkF m 116 #[.val (.int p1)] [(.int (12 : Int32)), (.int p1)])) _
    refine XS.icmpYes X0.here hx rfl (pc0 := 116) (pc' := 123) rfl (hb hby d1_116) rfl (feq hc116).2 (by decide) (by decide) ?_
    show Steps p.tables e below (s₁.setTop (mkF m 123 #[.val (.int p1)] [])) _
    refine XS.iloadN X0.here hx rfl (hb hby d1_123) rfl ?_
    show Steps p.tables e below (s₁.setTop (mkF m 124 #[.val (.int p1)] [(.int p1)])) _
    refine XS.bipush X0.here hx rfl (hb hby d1_124) ?_
    show Steps p.tables e below (s₁.setTop (mkF m 126 #[.val (.int p1)] [(.int (13 : Int32)), (.int p1)])) _
    refine XS.icmpYes X0.here hx rfl (pc0 := 126) (pc' := 133) rfl (hb hby d1_126) rfl (feq hc126).2 (by decide) (by decide) ?_
    show Steps p.tables e below (s₁.setTop (mkF m 133 #[.val (.int p1)] [])) _
    refine st1 _ ?_
    show Steps p.tables e below (T1.setTop (mkF m 136 #[.val (.int p1)] [(.ref w)])) _
    exact retOut X1 hx Bd.returns rfl (Or.inr (Or.inr (Or.inr (Or.inr ⟨rfl, rfl, rfl⟩)))) (hb hby d1_136) hr
  · show QP (some (.ref w)) h0 n0 _ T1.heap _
    rw [e1]
    exact ⟨rfl, N0, rfl⟩
theorem d2_0 : decode prog_18_method_8_code 0 = .ok (.aload_n 0, 1) := by decide +kernel
theorem d2_1 : decode prog_18_method_8_code 1 = .ok (.getfield 75, 3) := by decide +kernel
theorem d2_4 : decode prog_18_method_8_code 4 = .ok (.getstatic 103, 3) := by decide +kernel
theorem d2_7 : decode prog_18_method_8_code 7 = .ok (.if_acmp .ne 7, 3) := by decide +kernel
theorem d2_10 : decode prog_18_method_8_code 10 = .ok (.iconst 1, 1) := by decide +kernel
theorem d2_11 : decode prog_18_method_8_code 11 = .ok (.goto 4, 3) := by decide +kernel
theorem d2_15 : decode prog_18_method_8_code 15 = .ok (.ireturn, 1) := by decide +kernel
theorem pn_com_example_tabulon_tabulon_document_CellType : plainName "com/example/tabulon/tabulon/document/CellType" = true := by first | (simp [plainName, overriddenIn]; done) | decide +kernel
theorem ef_2 (m : MethodId) (x0 : Addr) : entryFrame m #[(.ref x0)] 1 = mkF m 0 #[.val (.ref x0)] [] := by first | (simp [entryFrame, mkF, argsToLocals, Value.category]; done) | rfl
abbrev nm_2 : MethodName := ⟨"com/example/tabulon/tabulon/document/CellType", "holdsNumber", "()Z"⟩
set_option maxRecDepth 65536 in
set_option maxHeartbeats 40000000 in
theorem rm2_f (l : Launch) (Z : State) (a0 : Array Value) (hw : ∀ d ∈ tables_1, d.before a0 Z = true) (ws : List Jvm.Cond) (a1 : Addr) (sk : Value) (w : Addr) (h0 : Heap) (n0 : Nat) (Z0 : n0 ≤ h0.size) (hsk : sk.isRef = true) (F : Fld Z h0 a1 "com/example/tabulon/tabulon/document/CellType" "shortKind" "Lcom/example/tabulon/tabulon/json/JsonKind;" sk) (S : Sta Z h0 "com/example/tabulon/tabulon/json/JsonKind" "NUMBER" "Lcom/example/tabulon/tabulon/json/JsonKind;" (.ref w)) (hq : sk = .ref w) :
    MetFree l nm_2 (head1 (Jvm.Cond.code nm_2 prog_18_method_8_code 1 (some .boolean) :: ws) rr0) (fun aa U => aa = #[(.ref a1)] ∧ Z.Warmed39 U.vm ∧ U.heap = h0) (fun _ _ _ _ _ => True) (fun _ U o U' => ∃ v L, o = .returned v ∧ QP (some (.int (1 : Int32))) h0 n0 v U'.heap L ∧ FrameEnd U o U' L rr0.cells rr0.slots) := by
  refine MetFree.of_bodySF (plainFor_of_name pn_com_example_tabulon_tabulon_document_CellType) hisR ?_
  intro p e s m args below meth c s₁ Bd hml0 hP hK
  obtain ⟨rfl, hZ, hh⟩ := hP
  have hx := Bd.exec
  have hby := Bd.bytes
  have hml : c.maxLocals = 1 := hml0
  have hown : s.vm.findClass "com/example/tabulon/tabulon/document/CellType" = some m.cls := findClass_of_methodNamed Bd.named
  have hnm := (name_of_methodNamed Bd.named Bd.method).1
  have X0 : Stand p l e rr0 s m #[(.ref a1)] below meth c s₁ [] 0 0 := Stand.of_body Bd
  have e0 : s₁.heap = h0 := by rw [← hh, Bd.state]; rfl
  have N0 := Fr.nil n0
  have pre0 : ∀ t, Steps p.tables e below (s₁.setTop (mkF m 0 #[.val (.ref a1)] [])) t → Steps p.tables e below (s₁.setTop (entryFrame m #[(.ref a1)] 1)) t := fun t k => castTop (ef_2 m a1) k
  obtain ⟨T1, X1, e1, st1⟩ := getF X0 hx hZ hown (host := "") (Or.inl (ow hw 13 rfl)) Via.refl e0 F (g := (mkF m 1 #[.val (.ref a1)] [(.ref a1)])) rfl rfl (hb hby d2_1)
  obtain ⟨T2, X2, e2, st2⟩ := getS2 X1 hx hZ hown (host := "") (Or.inl (ow hw 17 rfl)) Via.refl e1 S (g := (mkF m 4 #[.val (.ref a1)] [sk])) rfl (hb hby d2_4)
  obtain ⟨fs, hr, hrun, hended, hW, hsame⟩ := X2.leave (v := some (.int (1 : Int32))) (fun h => by rw [Bd.returns] at h; cases h)
  refine ⟨_, _, pre0 _ ?_, hrun, hended, _, _, rfl, ?_, ⟨_, rfl⟩, hW, hsame.mono (by decide) (by decide)⟩
  · show Steps p.tables e below (s₁.setTop (mkF m 0 #[.val (.ref a1)] [])) _
    refine XS.aloadN X0.here hx rfl (hb hby d2_0) rfl rfl ?_
    show Steps p.tables e below (s₁.setTop (mkF m 1 #[.val (.ref a1)] [(.ref a1)])) _
    refine st1 _ ?_
    show Steps p.tables e below (T1.setTop (mkF m 4 #[.val (.ref a1)] [sk])) _
    refine st2 _ ?_
    show Steps p.tables e below (T2.setTop (mkF m 7 #[.val (.ref a1)] [(.ref w), sk])) _
    refine Jvm.RoadKit.acmp (g := (mkF m 7 #[.val (.ref a1)] [(.ref w), sk])) X2 hx rfl hsk rfl (pc0 := 7) (pc' := 10) (same := true) rfl (hb hby d2_7) rfl (decide_eq_true (hq : (sk : Value) = (.ref w))) (by decide) (by decide) ?_
    show Steps p.tables e below (T2.setTop (mkF m 10 #[.val (.ref a1)] [])) _
    refine XS.iconst X2.here hx rfl (hb hby d2_10) ?_
    show Steps p.tables e below (T2.setTop (mkF m 11 #[.val (.ref a1)] [(.int (1 : Int32))])) _
    refine XS.goto X2.here hx rfl (pc0 := 11) (pc' := 15) rfl (hb hby d2_11) (by decide) (by decide) ?_
    show Steps p.tables e below (T2.setTop (mkF m 15 #[.val (.ref a1)] [(.int (1 : Int32))])) _
    exact retN X2 hx (t := .boolean) Bd.returns (by simp) (hb hby d2_15) hr
  · show QP (some (.int (1 : Int32))) h0 n0 _ T2.heap _
    rw [e2]
    exact ⟨rfl, N0, rfl⟩
theorem d2_14 : decode prog_18_method_8_code 14 = .ok (.iconst 0, 1) := by decide +kernel
set_option maxRecDepth 65536 in
set_option maxHeartbeats 40000000 in
theorem rm2_t (l : Launch) (Z : State) (a0 : Array Value) (hw : ∀ d ∈ tables_1, d.before a0 Z = true) (ws : List Jvm.Cond) (a1 : Addr) (sk : Value) (w : Addr) (h0 : Heap) (n0 : Nat) (Z0 : n0 ≤ h0.size) (hsk : sk.isRef = true) (F : Fld Z h0 a1 "com/example/tabulon/tabulon/document/CellType" "shortKind" "Lcom/example/tabulon/tabulon/json/JsonKind;" sk) (S : Sta Z h0 "com/example/tabulon/tabulon/json/JsonKind" "NUMBER" "Lcom/example/tabulon/tabulon/json/JsonKind;" (.ref w)) (hq : ¬ (sk = .ref w)) :
    MetFree l nm_2 (head1 (Jvm.Cond.code nm_2 prog_18_method_8_code 1 (some .boolean) :: ws) rr0) (fun aa U => aa = #[(.ref a1)] ∧ Z.Warmed39 U.vm ∧ U.heap = h0) (fun _ _ _ _ _ => True) (fun _ U o U' => ∃ v L, o = .returned v ∧ QP (some (.int (0 : Int32))) h0 n0 v U'.heap L ∧ FrameEnd U o U' L rr0.cells rr0.slots) := by
  refine MetFree.of_bodySF (plainFor_of_name pn_com_example_tabulon_tabulon_document_CellType) hisR ?_
  intro p e s m args below meth c s₁ Bd hml0 hP hK
  obtain ⟨rfl, hZ, hh⟩ := hP
  have hx := Bd.exec
  have hby := Bd.bytes
  have hml : c.maxLocals = 1 := hml0
  have hown : s.vm.findClass "com/example/tabulon/tabulon/document/CellType" = some m.cls := findClass_of_methodNamed Bd.named
  have hnm := (name_of_methodNamed Bd.named Bd.method).1
  have X0 : Stand p l e rr0 s m #[(.ref a1)] below meth c s₁ [] 0 0 := Stand.of_body Bd
  have e0 : s₁.heap = h0 := by rw [← hh, Bd.state]; rfl
  have N0 := Fr.nil n0
  have pre0 : ∀ t, Steps p.tables e below (s₁.setTop (mkF m 0 #[.val (.ref a1)] [])) t → Steps p.tables e below (s₁.setTop (entryFrame m #[(.ref a1)] 1)) t := fun t k => castTop (ef_2 m a1) k
  obtain ⟨T1, X1, e1, st1⟩ := getF X0 hx hZ hown (host := "") (Or.inl (ow hw 13 rfl)) Via.refl e0 F (g := (mkF m 1 #[.val (.ref a1)] [(.ref a1)])) rfl rfl (hb hby d2_1)
  obtain ⟨T2, X2, e2, st2⟩ := getS2 X1 hx hZ hown (host := "") (Or.inl (ow hw 17 rfl)) Via.refl e1 S (g := (mkF m 4 #[.val (.ref a1)] [sk])) rfl (hb hby d2_4)
  obtain ⟨fs, hr, hrun, hended, hW, hsame⟩ := X2.leave (v := some (.int (0 : Int32))) (fun h => by rw [Bd.returns] at h; cases h)
  refine ⟨_, _, pre0 _ ?_, hrun, hended, _, _, rfl, ?_, ⟨_, rfl⟩, hW, hsame.mono (by decide) (by decide)⟩
  · show Steps p.tables e below (s₁.setTop (mkF m 0 #[.val (.ref a1)] [])) _
    refine XS.aloadN X0.here hx rfl (hb hby d2_0) rfl rfl ?_
    show Steps p.tables e below (s₁.setTop (mkF m 1 #[.val (.ref a1)] [(.ref a1)])) _
    refine st1 _ ?_
    show Steps p.tables e below (T1.setTop (mkF m 4 #[.val (.ref a1)] [sk])) _
    refine st2 _ ?_
    show Steps p.tables e below (T2.setTop (mkF m 7 #[.val (.ref a1)] [(.ref w), sk])) _
    refine Jvm.RoadKit.acmp (g := (mkF m 7 #[.val (.ref a1)] [(.ref w), sk])) X2 hx rfl hsk rfl (pc0 := 7) (pc' := 14) (same := false) rfl (hb hby d2_7) rfl (decide_eq_false (hq : ¬ ((sk : Value) = (.ref w)))) (by decide) (by decide) ?_
    show Steps p.tables e below (T2.setTop (mkF m 14 #[.val (.ref a1)] [])) _
    refine XS.iconst X2.here hx rfl (hb hby d2_14) ?_
    show Steps p.tables e below (T2.setTop (mkF m 15 #[.val (.ref a1)] [(.int (0 : Int32))])) _
    exact retN X2 hx (t := .boolean) Bd.returns (by simp) (hb hby d2_15) hr
  · show QP (some (.int (0 : Int32))) h0 n0 _ T2.heap _
    rw [e2]
    exact ⟨rfl, N0, rfl⟩
theorem d3_0 : decode method_3_code 0 = .ok (.aload_n 0, 1) := by decide +kernel
theorem d3_1 : decode method_3_code 1 = .ok (.getstatic 7, 3) := by decide +kernel
theorem d3_4 : decode method_3_code 4 = .ok (.if_acmp .eq 38, 3) := by decide +kernel
theorem d3_42 : decode method_3_code 42 = .ok (.iconst 1, 1) := by decide +kernel
theorem d3_43 : decode method_3_code 43 = .ok (.goto 4, 3) := by decide +kernel
theorem d3_47 : decode method_3_code 47 = .ok (.ireturn, 1) := by decide +kernel
theorem ef_3 (m : MethodId) (x0 : Addr) : entryFrame m #[(.ref x0)] 1 = mkF m 0 #[.val (.ref x0)] [] := by first | (simp [entryFrame, mkF, argsToLocals, Value.category]; done) | rfl
abbrev nm_3 : MethodName := ⟨"com/example/tabulon/tabulon/document/CellTypeHoldsNumberPinLaw", "documentedNumeric", "(Lcom/example/tabulon/tabulon/document/CellType;)Z"⟩
set_option maxRecDepth 65536 in
set_option maxHeartbeats 40000000 in
theorem rm3_0 (l : Launch) (Z : State) (a0 : Array Value) (hw : ∀ d ∈ tables_1, d.before a0 Z = true) (ws : List Jvm.Cond) (a1 : Addr) (w0 : Addr) (w1 : Addr) (w2 : Addr) (w3 : Addr) (w4 : Addr) (w5 : Addr) (h0 : Heap) (n0 : Nat) (Z0 : n0 ≤ h0.size) (S0 : Sta Z h0 "com/example/tabulon/tabulon/document/CellType" "NUMERIC" "Lcom/example/tabulon/tabulon/document/CellType;" (.ref w0)) (S1 : Sta Z h0 "com/example/tabulon/tabulon/document/CellType" "INT" "Lcom/example/tabulon/tabulon/document/CellType;" (.ref w1)) (S2 : Sta Z h0 "com/example/tabulon/tabulon/document/CellType" "DATE" "Lcom/example/tabulon/tabulon/document/CellType;" (.ref w2)) (S3 : Sta Z h0 "com/example/tabulon/tabulon/document/CellType" "DATE_TIME" "Lcom/example/tabulon/tabulon/document/CellType;" (.ref w3)) (S4 : Sta Z h0 "com/example/tabulon/tabulon/document/CellType" "REFERENCE" "Lcom/example/tabulon/tabulon/document/CellType;" (.ref w4)) (S5 : Sta Z h0 "com/example/tabulon/tabulon/document/CellType" "POSITION_NUMBER" "Lcom/example/tabulon/tabulon/document/CellType;" (.ref w5)) (ha4 : a1 = w0) :
    MetFree l nm_3 (head1 (Jvm.Cond.code nm_3 method_3_code 1 (some .boolean) :: ws) rr0) (fun aa U => aa = #[(.ref a1)] ∧ Z.Warmed39 U.vm ∧ U.heap = h0) (fun _ _ _ _ _ => True) (fun _ U o U' => ∃ v L, o = .returned v ∧ QP (some (.int (1 : Int32))) h0 n0 v U'.heap L ∧ FrameEnd U o U' L rr0.cells rr0.slots) := by
  refine MetFree.of_bodySF (plainFor_of_name pn_com_example_tabulon_tabulon_document_CellTypeHoldsNumberPinLaw) hisR ?_
  intro p e s m args below meth c s₁ Bd hml0 hP hK
  obtain ⟨rfl, hZ, hh⟩ := hP
  have hx := Bd.exec
  have hby := Bd.bytes
  have hml : c.maxLocals = 1 := hml0
  have hown : s.vm.findClass "com/example/tabulon/tabulon/document/CellTypeHoldsNumberPinLaw" = some m.cls := findClass_of_methodNamed Bd.named
  have hnm := (name_of_methodNamed Bd.named Bd.method).1
  have X0 : Stand p l e rr0 s m #[(.ref a1)] below meth c s₁ [] 0 0 := Stand.of_body Bd
  have e0 : s₁.heap = h0 := by rw [← hh, Bd.state]; rfl
  have N0 := Fr.nil n0
  have pre0 : ∀ t, Steps p.tables e below (s₁.setTop (mkF m 0 #[.val (.ref a1)] [])) t → Steps p.tables e below (s₁.setTop (entryFrame m #[(.ref a1)] 1)) t := fun t k => castTop (ef_3 m a1) k
  obtain ⟨T1, X1, e1, st1⟩ := getS2 X0 hx hZ hown (host := "") (Or.inl (ow hw 5 rfl)) Via.refl e0 S0 (g := (mkF m 1 #[.val (.ref a1)] [(.ref a1)])) rfl (hb hby d3_1)
  obtain ⟨fs, hr, hrun, hended, hW, hsame⟩ := X1.leave (v := some (.int (1 : Int32))) (fun h => by rw [Bd.returns] at h; cases h)
  refine ⟨_, _, pre0 _ ?_, hrun, hended, _, _, rfl, ?_, ⟨_, rfl⟩, hW, hsame.mono (by decide) (by decide)⟩
  · show Steps p.tables e below (s₁.setTop (mkF m 0 #[.val (.ref a1)] [])) _
    refine XS.aloadN X0.here hx rfl (hb hby d3_0) rfl rfl ?_
    show Steps p.tables e below (s₁.setTop (mkF m 1 #[.val (.ref a1)] [(.ref a1)])) _
    refine st1 _ ?_
    show Steps p.tables e below (T1.setTop (mkF m 4 #[.val (.ref a1)] [(.ref w0), (.ref a1)])) _
    refine Jvm.RoadKit.acmp (g := (mkF m 4 #[.val (.ref a1)] [(.ref w0), (.ref a1)])) X1 hx rfl rfl rfl (pc0 := 4) (pc' := 42) (same := true) rfl (hb hby d3_4) rfl (decide_eq_true (congrArg Value.ref ha4)) (by decide) (by decide) ?_
    show Steps p.tables e below (T1.setTop (mkF m 42 #[.val (.ref a1)] [])) _
    refine XS.iconst X1.here hx rfl (hb hby d3_42) ?_
    show Steps p.tables e below (T1.setTop (mkF m 43 #[.val (.ref a1)] [(.int (1 : Int32))])) _
    refine XS.goto X1.here hx rfl (pc0 := 43) (pc' := 47) rfl (hb hby d3_43) (by decide) (by decide) ?_
    show Steps p.tables e below (T1.setTop (mkF m 47 #[.val (.ref a1)] [(.int (1 : Int32))])) _
    exact retN X1 hx (t := .boolean) Bd.returns (by simp) (hb hby d3_47) hr
  · show QP (some (.int (1 : Int32))) h0 n0 _ T1.heap _
    rw [e1]
    exact ⟨rfl, N0, rfl⟩
theorem d3_7 : decode method_3_code 7 = .ok (.aload_n 0, 1) := by decide +kernel
theorem d3_8 : decode method_3_code 8 = .ok (.getstatic 22, 3) := by decide +kernel
theorem d3_11 : decode method_3_code 11 = .ok (.if_acmp .eq 31, 3) := by decide +kernel
set_option maxRecDepth 65536 in
set_option maxHeartbeats 40000000 in
theorem rm3_1 (l : Launch) (Z : State) (a0 : Array Value) (hw : ∀ d ∈ tables_1, d.before a0 Z = true) (ws : List Jvm.Cond) (a1 : Addr) (w0 : Addr) (w1 : Addr) (w2 : Addr) (w3 : Addr) (w4 : Addr) (w5 : Addr) (h0 : Heap) (n0 : Nat) (Z0 : n0 ≤ h0.size) (S0 : Sta Z h0 "com/example/tabulon/tabulon/document/CellType" "NUMERIC" "Lcom/example/tabulon/tabulon/document/CellType;" (.ref w0)) (S1 : Sta Z h0 "com/example/tabulon/tabulon/document/CellType" "INT" "Lcom/example/tabulon/tabulon/document/CellType;" (.ref w1)) (S2 : Sta Z h0 "com/example/tabulon/tabulon/document/CellType" "DATE" "Lcom/example/tabulon/tabulon/document/CellType;" (.ref w2)) (S3 : Sta Z h0 "com/example/tabulon/tabulon/document/CellType" "DATE_TIME" "Lcom/example/tabulon/tabulon/document/CellType;" (.ref w3)) (S4 : Sta Z h0 "com/example/tabulon/tabulon/document/CellType" "REFERENCE" "Lcom/example/tabulon/tabulon/document/CellType;" (.ref w4)) (S5 : Sta Z h0 "com/example/tabulon/tabulon/document/CellType" "POSITION_NUMBER" "Lcom/example/tabulon/tabulon/document/CellType;" (.ref w5)) (ha4 : ¬ (a1 = w0)) (ha11 : a1 = w1) :
    MetFree l nm_3 (head1 (Jvm.Cond.code nm_3 method_3_code 1 (some .boolean) :: ws) rr0) (fun aa U => aa = #[(.ref a1)] ∧ Z.Warmed39 U.vm ∧ U.heap = h0) (fun _ _ _ _ _ => True) (fun _ U o U' => ∃ v L, o = .returned v ∧ QP (some (.int (1 : Int32))) h0 n0 v U'.heap L ∧ FrameEnd U o U' L rr0.cells rr0.slots) := by
  refine MetFree.of_bodySF (plainFor_of_name pn_com_example_tabulon_tabulon_document_CellTypeHoldsNumberPinLaw) hisR ?_
  intro p e s m args below meth c s₁ Bd hml0 hP hK
  obtain ⟨rfl, hZ, hh⟩ := hP
  have hx := Bd.exec
  have hby := Bd.bytes
  have hml : c.maxLocals = 1 := hml0
  have hown : s.vm.findClass "com/example/tabulon/tabulon/document/CellTypeHoldsNumberPinLaw" = some m.cls := findClass_of_methodNamed Bd.named
  have hnm := (name_of_methodNamed Bd.named Bd.method).1
  have X0 : Stand p l e rr0 s m #[(.ref a1)] below meth c s₁ [] 0 0 := Stand.of_body Bd
  have e0 : s₁.heap = h0 := by rw [← hh, Bd.state]; rfl
  have N0 := Fr.nil n0
  have pre0 : ∀ t, Steps p.tables e below (s₁.setTop (mkF m 0 #[.val (.ref a1)] [])) t → Steps p.tables e below (s₁.setTop (entryFrame m #[(.ref a1)] 1)) t := fun t k => castTop (ef_3 m a1) k
  obtain ⟨T1, X1, e1, st1⟩ := getS2 X0 hx hZ hown (host := "") (Or.inl (ow hw 5 rfl)) Via.refl e0 S0 (g := (mkF m 1 #[.val (.ref a1)] [(.ref a1)])) rfl (hb hby d3_1)
  obtain ⟨T2, X2, e2, st2⟩ := getS2 X1 hx hZ hown (host := "") (Or.inl (ow hw 24 rfl)) Via.refl e1 S1 (g := (mkF m 8 #[.val (.ref a1)] [(.ref a1)])) rfl (hb hby d3_8)
  obtain ⟨fs, hr, hrun, hended, hW, hsame⟩ := X2.leave (v := some (.int (1 : Int32))) (fun h => by rw [Bd.returns] at h; cases h)
  refine ⟨_, _, pre0 _ ?_, hrun, hended, _, _, rfl, ?_, ⟨_, rfl⟩, hW, hsame.mono (by decide) (by decide)⟩
  · show Steps p.tables e below (s₁.setTop (mkF m 0 #[.val (.ref a1)] [])) _
    refine XS.aloadN X0.here hx rfl (hb hby d3_0) rfl rfl ?_
    show Steps p.tables e below (s₁.setTop (mkF m 1 #[.val (.ref a1)] [(.ref a1)])) _
    refine st1 _ ?_
    show Steps p.tables e below (T1.setTop (mkF m 4 #[.val (.ref a1)] [(.ref w0), (.ref a1)])) _
    refine Jvm.RoadKit.acmp (g := (mkF m 4 #[.val (.ref a1)] [(.ref w0), (.ref a1)])) X1 hx rfl rfl rfl (pc0 := 4) (pc' := 7) (same := false) rfl (hb hby d3_4) rfl (decide_eq_false fun q => ha4 (Value.ref.inj q)) (by decide) (by decide) ?_
    show Steps p.tables e below (T1.setTop (mkF m 7 #[.val (.ref a1)] [])) _
    refine XS.aloadN X1.here hx rfl (hb hby d3_7) rfl rfl ?_
    show Steps p.tables e below (T1.setTop (mkF m 8 #[.val (.ref a1)] [(.ref a1)])) _
    refine st2 _ ?_
    show Steps p.tables e below (T2.setTop (mkF m 11 #[.val (.ref a1)] [(.ref w1), (.ref a1)])) _
    refine Jvm.RoadKit.acmp (g := (mkF m 11 #[.val (.ref a1)] [(.ref w1), (.ref a1)])) X2 hx rfl rfl rfl (pc0 := 11) (pc' := 42) (same := true) rfl (hb hby d3_11) rfl (decide_eq_true (congrArg Value.ref ha11)) (by decide) (by decide) ?_
    show Steps p.tables e below (T2.setTop (mkF m 42 #[.val (.ref a1)] [])) _
    refine XS.iconst X2.here hx rfl (hb hby d3_42) ?_
    show Steps p.tables e below (T2.setTop (mkF m 43 #[.val (.ref a1)] [(.int (1 : Int32))])) _
    refine XS.goto X2.here hx rfl (pc0 := 43) (pc' := 47) rfl (hb hby d3_43) (by decide) (by decide) ?_
    show Steps p.tables e below (T2.setTop (mkF m 47 #[.val (.ref a1)] [(.int (1 : Int32))])) _
    exact retN X2 hx (t := .boolean) Bd.returns (by simp) (hb hby d3_47) hr
  · show QP (some (.int (1 : Int32))) h0 n0 _ T2.heap _
    rw [e2]
    exact ⟨rfl, N0, rfl⟩
theorem d3_14 : decode method_3_code 14 = .ok (.aload_n 0, 1) := by decide +kernel
theorem d3_15 : decode method_3_code 15 = .ok (.getstatic 25, 3) := by decide +kernel
theorem d3_18 : decode method_3_code 18 = .ok (.if_acmp .eq 24, 3) := by decide +kernel
set_option maxRecDepth 65536 in
set_option maxHeartbeats 40000000 in
theorem rm3_2 (l : Launch) (Z : State) (a0 : Array Value) (hw : ∀ d ∈ tables_1, d.before a0 Z = true) (ws : List Jvm.Cond) (a1 : Addr) (w0 : Addr) (w1 : Addr) (w2 : Addr) (w3 : Addr) (w4 : Addr) (w5 : Addr) (h0 : Heap) (n0 : Nat) (Z0 : n0 ≤ h0.size) (S0 : Sta Z h0 "com/example/tabulon/tabulon/document/CellType" "NUMERIC" "Lcom/example/tabulon/tabulon/document/CellType;" (.ref w0)) (S1 : Sta Z h0 "com/example/tabulon/tabulon/document/CellType" "INT" "Lcom/example/tabulon/tabulon/document/CellType;" (.ref w1)) (S2 : Sta Z h0 "com/example/tabulon/tabulon/document/CellType" "DATE" "Lcom/example/tabulon/tabulon/document/CellType;" (.ref w2)) (S3 : Sta Z h0 "com/example/tabulon/tabulon/document/CellType" "DATE_TIME" "Lcom/example/tabulon/tabulon/document/CellType;" (.ref w3)) (S4 : Sta Z h0 "com/example/tabulon/tabulon/document/CellType" "REFERENCE" "Lcom/example/tabulon/tabulon/document/CellType;" (.ref w4)) (S5 : Sta Z h0 "com/example/tabulon/tabulon/document/CellType" "POSITION_NUMBER" "Lcom/example/tabulon/tabulon/document/CellType;" (.ref w5)) (ha4 : ¬ (a1 = w0)) (ha11 : ¬ (a1 = w1)) (ha18 : a1 = w2) :
    MetFree l nm_3 (head1 (Jvm.Cond.code nm_3 method_3_code 1 (some .boolean) :: ws) rr0) (fun aa U => aa = #[(.ref a1)] ∧ Z.Warmed39 U.vm ∧ U.heap = h0) (fun _ _ _ _ _ => True) (fun _ U o U' => ∃ v L, o = .returned v ∧ QP (some (.int (1 : Int32))) h0 n0 v U'.heap L ∧ FrameEnd U o U' L rr0.cells rr0.slots) := by
  refine MetFree.of_bodySF (plainFor_of_name pn_com_example_tabulon_tabulon_document_CellTypeHoldsNumberPinLaw) hisR ?_
  intro p e s m args below meth c s₁ Bd hml0 hP hK
  obtain ⟨rfl, hZ, hh⟩ := hP
  have hx := Bd.exec
  have hby := Bd.bytes
  have hml : c.maxLocals = 1 := hml0
  have hown : s.vm.findClass "com/example/tabulon/tabulon/document/CellTypeHoldsNumberPinLaw" = some m.cls := findClass_of_methodNamed Bd.named
  have hnm := (name_of_methodNamed Bd.named Bd.method).1
  have X0 : Stand p l e rr0 s m #[(.ref a1)] below meth c s₁ [] 0 0 := Stand.of_body Bd
  have e0 : s₁.heap = h0 := by rw [← hh, Bd.state]; rfl
  have N0 := Fr.nil n0
  have pre0 : ∀ t, Steps p.tables e below (s₁.setTop (mkF m 0 #[.val (.ref a1)] [])) t → Steps p.tables e below (s₁.setTop (entryFrame m #[(.ref a1)] 1)) t := fun t k => castTop (ef_3 m a1) k
  obtain ⟨T1, X1, e1, st1⟩ := getS2 X0 hx hZ hown (host := "") (Or.inl (ow hw 5 rfl)) Via.refl e0 S0 (g := (mkF m 1 #[.val (.ref a1)] [(.ref a1)])) rfl (hb hby d3_1)
  obtain ⟨T2, X2, e2, st2⟩ := getS2 X1 hx hZ hown (host := "") (Or.inl (ow hw 24 rfl)) Via.refl e1 S1 (g := (mkF m 8 #[.val (.ref a1)] [(.ref a1)])) rfl (hb hby d3_8)
  obtain ⟨T3, X3, e3, st3⟩ := getS2 X2 hx hZ hown (host := "") (Or.inl (ow hw 26 rfl)) Via.refl e2 S2 (g := (mkF m 15 #[.val (.ref a1)] [(.ref a1)])) rfl (hb hby d3_15)
  obtain ⟨fs, hr, hrun, hended, hW, hsame⟩ := X3.leave (v := some (.int (1 : Int32))) (fun h => by rw [Bd.returns] at h; cases h)
  refine ⟨_, _, pre0 _ ?_, hrun, hended, _, _, rfl, ?_, ⟨_, rfl⟩, hW, hsame.mono (by decide) (by decide)⟩
  · show Steps p.tables e below (s₁.setTop (mkF m 0 #[.val (.ref a1)] [])) _
    refine XS.aloadN X0.here hx rfl (hb hby d3_0) rfl rfl ?_
    show Steps p.tables e below (s₁.setTop (mkF m 1 #[.val (.ref a1)] [(.ref a1)])) _
    refine st1 _ ?_
    show Steps p.tables e below (T1.setTop (mkF m 4 #[.val (.ref a1)] [(.ref w0), (.ref a1)])) _
    refine Jvm.RoadKit.acmp (g := (mkF m 4 #[.val (.ref a1)] [(.ref w0), (.ref a1)])) X1 hx rfl rfl rfl (pc0 := 4) (pc' := 7) (same := false) rfl (hb hby d3_4) rfl (decide_eq_false fun q => ha4 (Value.ref.inj q)) (by decide) (by decide) ?_
    show Steps p.tables e below (T1.setTop (mkF m 7 #[.val (.ref a1)] [])) _
    refine XS.aloadN X1.here hx rfl (hb hby d3_7) rfl rfl ?_
    show Steps p.tables e below (T1.setTop (mkF m 8 #[.val (.ref a1)] [(.ref a1)])) _
    refine st2 _ ?_
    show Steps p.tables e below (T2.setTop (mkF m 11 #[.val (.ref a1)] [(.ref w1), (.ref a1)])) _
    refine Jvm.RoadKit.acmp (g := (mkF m 11 #[.val (.ref a1)] [(.ref w1), (.ref a1)])) X2 hx rfl rfl rfl (pc0 := 11) (pc' := 14) (same := false) rfl (hb hby d3_11) rfl (decide_eq_false fun q => ha11 (Value.ref.inj q)) (by decide) (by decide) ?_
    show Steps p.tables e below (T2.setTop (mkF m 14 #[.val (.ref a1)] [])) _
    refine XS.aloadN X2.here hx rfl (hb hby d3_14) rfl rfl ?_
    show Steps p.tables e below (T2.setTop (mkF m 15 #[.val (.ref a1)] [(.ref a1)])) _
    refine st3 _ ?_
    show Steps p.tables e below (T3.setTop (mkF m 18 #[.val (.ref a1)] [(.ref w2), (.ref a1)])) _
    refine Jvm.RoadKit.acmp (g := (mkF m 18 #[.val (.ref a1)] [(.ref w2), (.ref a1)])) X3 hx rfl rfl rfl (pc0 := 18) (pc' := 42) (same := true) rfl (hb hby d3_18) rfl (decide_eq_true (congrArg Value.ref ha18)) (by decide) (by decide) ?_
    show Steps p.tables e below (T3.setTop (mkF m 42 #[.val (.ref a1)] [])) _
    refine XS.iconst X3.here hx rfl (hb hby d3_42) ?_
    show Steps p.tables e below (T3.setTop (mkF m 43 #[.val (.ref a1)] [(.int (1 : Int32))])) _
    refine XS.goto X3.here hx rfl (pc0 := 43) (pc' := 47) rfl (hb hby d3_43) (by decide) (by decide) ?_
    show Steps p.tables e below (T3.setTop (mkF m 47 #[.val (.ref a1)] [(.int (1 : Int32))])) _
    exact retN X3 hx (t := .boolean) Bd.returns (by simp) (hb hby d3_47) hr
  · show QP (some (.int (1 : Int32))) h0 n0 _ T3.heap _
    rw [e3]
    exact ⟨rfl, N0, rfl⟩
theorem d3_21 : decode method_3_code 21 = .ok (.aload_n 0, 1) := by decide +kernel
theorem d3_22 : decode method_3_code 22 = .ok (.getstatic 28, 3) := by decide +kernel
theorem d3_25 : decode method_3_code 25 = .ok (.if_acmp .eq 17, 3) := by decide +kernel
set_option maxRecDepth 65536 in
set_option maxHeartbeats 40000000 in
theorem rm3_3 (l : Launch) (Z : State) (a0 : Array Value) (hw : ∀ d ∈ tables_1, d.before a0 Z = true) (ws : List Jvm.Cond) (a1 : Addr) (w0 : Addr) (w1 : Addr) (w2 : Addr) (w3 : Addr) (w4 : Addr) (w5 : Addr) (h0 : Heap) (n0 : Nat) (Z0 : n0 ≤ h0.size) (S0 : Sta Z h0 "com/example/tabulon/tabulon/document/CellType" "NUMERIC" "Lcom/example/tabulon/tabulon/document/CellType;" (.ref w0)) (S1 : Sta Z h0 "com/example/tabulon/tabulon/document/CellType" "INT" "Lcom/example/tabulon/tabulon/document/CellType;" (.ref w1)) (S2 : Sta Z h0 "com/example/tabulon/tabulon/document/CellType" "DATE" "Lcom/example/tabulon/tabulon/document/CellType;" (.ref w2)) (S3 : Sta Z h0 "com/example/tabulon/tabulon/document/CellType" "DATE_TIME" "Lcom/example/tabulon/tabulon/document/CellType;" (.ref w3)) (S4 : Sta Z h0 "com/example/tabulon/tabulon/document/CellType" "REFERENCE" "Lcom/example/tabulon/tabulon/document/CellType;" (.ref w4)) (S5 : Sta Z h0 "com/example/tabulon/tabulon/document/CellType" "POSITION_NUMBER" "Lcom/example/tabulon/tabulon/document/CellType;" (.ref w5)) (ha4 : ¬ (a1 = w0)) (ha11 : ¬ (a1 = w1)) (ha18 : ¬ (a1 = w2)) (ha25 : a1 = w3) :
    MetFree l nm_3 (head1 (Jvm.Cond.code nm_3 method_3_code 1 (some .boolean) :: ws) rr0) (fun aa U => aa = #[(.ref a1)] ∧ Z.Warmed39 U.vm ∧ U.heap = h0) (fun _ _ _ _ _ => True) (fun _ U o U' => ∃ v L, o = .returned v ∧ QP (some (.int (1 : Int32))) h0 n0 v U'.heap L ∧ FrameEnd U o U' L rr0.cells rr0.slots) := by
  refine MetFree.of_bodySF (plainFor_of_name pn_com_example_tabulon_tabulon_document_CellTypeHoldsNumberPinLaw) hisR ?_
  intro p e s m args below meth c s₁ Bd hml0 hP hK
  obtain ⟨rfl, hZ, hh⟩ := hP
  have hx := Bd.exec
  have hby := Bd.bytes
  have hml : c.maxLocals = 1 := hml0
  have hown : s.vm.findClass "com/example/tabulon/tabulon/document/CellTypeHoldsNumberPinLaw" = some m.cls := findClass_of_methodNamed Bd.named
  have hnm := (name_of_methodNamed Bd.named Bd.method).1
  have X0 : Stand p l e rr0 s m #[(.ref a1)] below meth c s₁ [] 0 0 := Stand.of_body Bd
  have e0 : s₁.heap = h0 := by rw [← hh, Bd.state]; rfl
  have N0 := Fr.nil n0
  have pre0 : ∀ t, Steps p.tables e below (s₁.setTop (mkF m 0 #[.val (.ref a1)] [])) t → Steps p.tables e below (s₁.setTop (entryFrame m #[(.ref a1)] 1)) t := fun t k => castTop (ef_3 m a1) k
  obtain ⟨T1, X1, e1, st1⟩ := getS2 X0 hx hZ hown (host := "") (Or.inl (ow hw 5 rfl)) Via.refl e0 S0 (g := (mkF m 1 #[.val (.ref a1)] [(.ref a1)])) rfl (hb hby d3_1)
  obtain ⟨T2, X2, e2, st2⟩ := getS2 X1 hx hZ hown (host := "") (Or.inl (ow hw 24 rfl)) Via.refl e1 S1 (g := (mkF m 8 #[.val (.ref a1)] [(.ref a1)])) rfl (hb hby d3_8)
  obtain ⟨T3, X3, e3, st3⟩ := getS2 X2 hx hZ hown (host := "") (Or.inl (ow hw 26 rfl)) Via.refl e2 S2 (g := (mkF m 15 #[.val (.ref a1)] [(.ref a1)])) rfl (hb hby d3_15)
  obtain ⟨T4, X4, e4, st4⟩ := getS2 X3 hx hZ hown (host := "") (Or.inl (ow hw 28 rfl)) Via.refl e3 S3 (g := (mkF m 22 #[.val (.ref a1)] [(.ref a1)])) rfl (hb hby d3_22)
  obtain ⟨fs, hr, hrun, hended, hW, hsame⟩ := X4.leave (v := some (.int (1 : Int32))) (fun h => by rw [Bd.returns] at h; cases h)
  refine ⟨_, _, pre0 _ ?_, hrun, hended, _, _, rfl, ?_, ⟨_, rfl⟩, hW, hsame.mono (by decide) (by decide)⟩
  · show Steps p.tables e below (s₁.setTop (mkF m 0 #[.val (.ref a1)] [])) _
    refine XS.aloadN X0.here hx rfl (hb hby d3_0) rfl rfl ?_
    show Steps p.tables e below (s₁.setTop (mkF m 1 #[.val (.ref a1)] [(.ref a1)])) _
    refine st1 _ ?_
    show Steps p.tables e below (T1.setTop (mkF m 4 #[.val (.ref a1)] [(.ref w0), (.ref a1)])) _
    refine Jvm.RoadKit.acmp (g := (mkF m 4 #[.val (.ref a1)] [(.ref w0), (.ref a1)])) X1 hx rfl rfl rfl (pc0 := 4) (pc' := 7) (same := false) rfl (hb hby d3_4) rfl (decide_eq_false fun q => ha4 (Value.ref.inj q)) (by decide) (by decide) ?_
    show Steps p.tables e below (T1.setTop (mkF m 7 #[.val (.ref a1)] [])) _
    refine XS.aloadN X1.here hx rfl (hb hby d3_7) rfl rfl ?_
    show Steps p.tables e below (T1.setTop (mkF m 8 #[.val (.ref a1)] [(.ref a1)])) _
    refine st2 _ ?_
    show Steps p.tables e below (T2.setTop (mkF m 11 #[.val (.ref a1)] [(.ref w1), (.ref a1)])) _
    refine Jvm.RoadKit.acmp (g := (mkF m 11 #[.val (.ref a1)] [(.ref w1), (.ref a1)])) X2 hx rfl rfl rfl (pc0 := 11) (pc' := 14) (same := false) rfl (hb hby d3_11) rfl (decide_eq_false fun q => ha11 (Value.ref.inj q)) (by decide) (by decide) ?_
    show Steps p.tables e below (T2.setTop (mkF m 14 #[.val (.ref a1)] [])) _
    refine XS.aloadN X2.here hx rfl (hb hby d3_14) rfl rfl ?_
    show Steps p.tables e below (T2.setTop (mkF m 15 #[.val (.ref a1)] [(.ref a1)])) _
    refine st3 _ ?_
    show Steps p.tables e below (T3.setTop (mkF m 18 #[.val (.ref a1)] [(.ref w2), (.ref a1)])) _
    refine Jvm.RoadKit.acmp (g := (mkF m 18 #[.val (.ref a1)] [(.ref w2), (.ref a1)])) X3 hx rfl rfl rfl (pc0 := 18) (pc' := 21) (same := false) rfl (hb hby d3_18) rfl (decide_eq_false fun q => ha18 (Value.ref.inj q)) (by decide) (by decide) ?_
    show Steps p.tables e below (T3.setTop (mkF m 21 #[.val (.ref a1)] [])) _
    refine XS.aloadN X3.here hx rfl (hb hby d3_21) rfl rfl ?_
    show Steps p.tables e below (T3.setTop (mkF m 22 #[.val (.ref a1)] [(.ref a1)])) _
    refine st4 _ ?_
    show Steps p.tables e below (T4.setTop (mkF m 25 #[.val (.ref a1)] [(.ref w3), (.ref a1)])) _
    refine Jvm.RoadKit.acmp (g := (mkF m 25 #[.val (.ref a1)] [(.ref w3), (.ref a1)])) X4 hx rfl rfl rfl (pc0 := 25) (pc' := 42) (same := true) rfl (hb hby d3_25) rfl (decide_eq_true (congrArg Value.ref ha25)) (by decide) (by decide) ?_
    show Steps p.tables e below (T4.setTop (mkF m 42 #[.val (.ref a1)] [])) _
    refine XS.iconst X4.here hx rfl (hb hby d3_42) ?_
    show Steps p.tables e below (T4.setTop (mkF m 43 #[.val (.ref a1)] [(.int (1 : Int32))])) _
    refine XS.goto X4.here hx rfl (pc0 := 43) (pc' := 47) rfl (hb hby d3_43) (by decide) (by decide) ?_
    show Steps p.tables e below (T4.setTop (mkF m 47 #[.val (.ref a1)] [(.int (1 : Int32))])) _
    exact retN X4 hx (t := .boolean) Bd.returns (by simp) (hb hby d3_47) hr
  · show QP (some (.int (1 : Int32))) h0 n0 _ T4.heap _
    rw [e4]
    exact ⟨rfl, N0, rfl⟩
theorem d3_28 : decode method_3_code 28 = .ok (.aload_n 0, 1) := by decide +kernel
theorem d3_29 : decode method_3_code 29 = .ok (.getstatic 31, 3) := by decide +kernel
theorem d3_32 : decode method_3_code 32 = .ok (.if_acmp .eq 10, 3) := by decide +kernel
set_option maxRecDepth 65536 in
set_option maxHeartbeats 40000000 in
theorem rm3_4 (l : Launch) (Z : State) (a0 : Array Value) (hw : ∀ d ∈ tables_1, d.before a0 Z = true) (ws : List Jvm.Cond) (a1 : Addr) (w0 : Addr) (w1 : Addr) (w2 : Addr) (w3 : Addr) (w4 : Addr) (w5 : Addr) (h0 : Heap) (n0 : Nat) (Z0 : n0 ≤ h0.size) (S0 : Sta Z h0 "com/example/tabulon/tabulon/document/CellType" "NUMERIC" "Lcom/example/tabulon/tabulon/document/CellType;" (.ref w0)) (S1 : Sta Z h0 "com/example/tabulon/tabulon/document/CellType" "INT" "Lcom/example/tabulon/tabulon/document/CellType;" (.ref w1)) (S2 : Sta Z h0 "com/example/tabulon/tabulon/document/CellType" "DATE" "Lcom/example/tabulon/tabulon/document/CellType;" (.ref w2)) (S3 : Sta Z h0 "com/example/tabulon/tabulon/document/CellType" "DATE_TIME" "Lcom/example/tabulon/tabulon/document/CellType;" (.ref w3)) (S4 : Sta Z h0 "com/example/tabulon/tabulon/document/CellType" "REFERENCE" "Lcom/example/tabulon/tabulon/document/CellType;" (.ref w4)) (S5 : Sta Z h0 "com/example/tabulon/tabulon/document/CellType" "POSITION_NUMBER" "Lcom/example/tabulon/tabulon/document/CellType;" (.ref w5)) (ha4 : ¬ (a1 = w0)) (ha11 : ¬ (a1 = w1)) (ha18 : ¬ (a1 = w2)) (ha25 : ¬ (a1 = w3)) (ha32 : a1 = w4) :
    MetFree l nm_3 (head1 (Jvm.Cond.code nm_3 method_3_code 1 (some .boolean) :: ws) rr0) (fun aa U => aa = #[(.ref a1)] ∧ Z.Warmed39 U.vm ∧ U.heap = h0) (fun _ _ _ _ _ => True) (fun _ U o U' => ∃ v L, o = .returned v ∧ QP (some (.int (1 : Int32))) h0 n0 v U'.heap L ∧ FrameEnd U o U' L rr0.cells rr0.slots) := by
  refine MetFree.of_bodySF (plainFor_of_name pn_com_example_tabulon_tabulon_document_CellTypeHoldsNumberPinLaw) hisR ?_
  intro p e s m args below meth c s₁ Bd hml0 hP hK
  obtain ⟨rfl, hZ, hh⟩ := hP
  have hx := Bd.exec
  have hby := Bd.bytes
  have hml : c.maxLocals = 1 := hml0
  have hown : s.vm.findClass "com/example/tabulon/tabulon/document/CellTypeHoldsNumberPinLaw" = some m.cls := findClass_of_methodNamed Bd.named
  have hnm := (name_of_methodNamed Bd.named Bd.method).1
  have X0 : Stand p l e rr0 s m #[(.ref a1)] below meth c s₁ [] 0 0 := Stand.of_body Bd
  have e0 : s₁.heap = h0 := by rw [← hh, Bd.state]; rfl
  have N0 := Fr.nil n0
  have pre0 : ∀ t, Steps p.tables e below (s₁.setTop (mkF m 0 #[.val (.ref a1)] [])) t → Steps p.tables e below (s₁.setTop (entryFrame m #[(.ref a1)] 1)) t := fun t k => castTop (ef_3 m a1) k
  obtain ⟨T1, X1, e1, st1⟩ := getS2 X0 hx hZ hown (host := "") (Or.inl (ow hw 5 rfl)) Via.refl e0 S0 (g := (mkF m 1 #[.val (.ref a1)] [(.ref a1)])) rfl (hb hby d3_1)
  obtain ⟨T2, X2, e2, st2⟩ := getS2 X1 hx hZ hown (host := "") (Or.inl (ow hw 24 rfl)) Via.refl e1 S1 (g := (mkF m 8 #[.val (.ref a1)] [(.ref a1)])) rfl (hb hby d3_8)
  obtain ⟨T3, X3, e3, st3⟩ := getS2 X2 hx hZ hown (host := "") (Or.inl (ow hw 26 rfl)) Via.refl e2 S2 (g := (mkF m 15 #[.val (.ref a1)] [(.ref a1)])) rfl (hb hby d3_15)
  obtain ⟨T4, X4, e4, st4⟩ := getS2 X3 hx hZ hown (host := "") (Or.inl (ow hw 28 rfl)) Via.refl e3 S3 (g := (mkF m 22 #[.val (.ref a1)] [(.ref a1)])) rfl (hb hby d3_22)
  obtain ⟨T5, X5, e5, st5⟩ := getS2 X4 hx hZ hown (host := "") (Or.inl (ow hw 30 rfl)) Via.refl e4 S4 (g := (mkF m 29 #[.val (.ref a1)] [(.ref a1)])) rfl (hb hby d3_29)
  obtain ⟨fs, hr, hrun, hended, hW, hsame⟩ := X5.leave (v := some (.int (1 : Int32))) (fun h => by rw [Bd.returns] at h; cases h)
  refine ⟨_, _, pre0 _ ?_, hrun, hended, _, _, rfl, ?_, ⟨_, rfl⟩, hW, hsame.mono (by decide) (by decide)⟩
  · show Steps p.tables e below (s₁.setTop (mkF m 0 #[.val (.ref a1)] [])) _
    refine XS.aloadN X0.here hx rfl (hb hby d3_0) rfl rfl ?_
    show Steps p.tables e below (s₁.setTop (mkF m 1 #[.val (.ref a1)] [(.ref a1)])) _
    refine st1 _ ?_
    show Steps p.tables e below (T1.setTop (mkF m 4 #[.val (.ref a1)] [(.ref w0), (.ref a1)])) _
    refine Jvm.RoadKit.acmp (g := (mkF m 4 #[.val (.ref a1)] [(.ref w0), (.ref a1)])) X1 hx rfl rfl rfl (pc0 := 4) (pc' := 7) (same := false) rfl (hb hby d3_4) rfl (decide_eq_false fun q => ha4 (Value.ref.inj q)) (by decide) (by decide) ?_
    show Steps p.tables e below (T1.setTop (mkF m 7 #[.val (.ref a1)] [])) _
    refine XS.aloadN X1.here hx rfl (hb hby d3_7) rfl rfl ?_
    show Steps p.tables e below (T1.setTop (mkF m 8 #[.val (.ref a1)] [(.ref a1)])) _
    refine st2 _ ?_
    show Steps p.tables e below (T2.setTop (mkF m 11 #[.val (.ref a1)] [(.ref w1), (.ref a1)])) _
    refine Jvm.RoadKit.acmp (g := (mkF m 11 #[.val (.ref a1)] [(.ref w1), (.ref a1)])) X2 hx rfl rfl rfl (pc0 := 11) (pc' := 14) (same := false) rfl (hb hby d3_11) rfl (decide_eq_false fun q => ha11 (Value.ref.inj q)) (by decide) (by decide) ?_
    show Steps p.tables e below (T2.setTop (mkF m 14 #[.val (.ref a1)] [])) _
    refine XS.aloadN X2.here hx rfl (hb hby d3_14) rfl rfl ?_
    show Steps p.tables e below (T2.setTop (mkF m 15 #[.val (.ref a1)] [(.ref a1)])) _
    refine st3 _ ?_
    show Steps p.tables e below (T3.setTop (mkF m 18 #[.val (.ref a1)] [(.ref w2), (.ref a1)])) _
    refine Jvm.RoadKit.acmp (g := (mkF m 18 #[.val (.ref a1)] [(.ref w2), (.ref a1)])) X3 hx rfl rfl rfl (pc0 := 18) (pc' := 21) (same := false) rfl (hb hby d3_18) rfl (decide_eq_false fun q => ha18 (Value.ref.inj q)) (by decide) (by decide) ?_
    show Steps p.tables e below (T3.setTop (mkF m 21 #[.val (.ref a1)] [])) _
    refine XS.aloadN X3.here hx rfl (hb hby d3_21) rfl rfl ?_
    show Steps p.tables e below (T3.setTop (mkF m 22 #[.val (.ref a1)] [(.ref a1)])) _
    refine st4 _ ?_
    show Steps p.tables e below (T4.setTop (mkF m 25 #[.val (.ref a1)] [(.ref w3), (.ref a1)])) _
    refine Jvm.RoadKit.acmp (g := (mkF m 25 #[.val (.ref a1)] [(.ref w3), (.ref a1)])) X4 hx rfl rfl rfl (pc0 := 25) (pc' := 28) (same := false) rfl (hb hby d3_25) rfl (decide_eq_false fun q => ha25 (Value.ref.inj q)) (by decide) (by decide) ?_
    show Steps p.tables e below (T4.setTop (mkF m 28 #[.val (.ref a1)] [])) _
    refine XS.aloadN X4.here hx rfl (hb hby d3_28) rfl rfl ?_
    show Steps p.tables e below (T4.setTop (mkF m 29 #[.val (.ref a1)] [(.ref a1)])) _
    refine st5 _ ?_
    show Steps p.tables e below (T5.setTop (mkF m 32 #[.val (.ref a1)] [(.ref w4), (.ref a1)])) _
    refine Jvm.RoadKit.acmp (g := (mkF m 32 #[.val (.ref a1)] [(.ref w4), (.ref a1)])) X5 hx rfl rfl rfl (pc0 := 32) (pc' := 42) (same := true) rfl (hb hby d3_32) rfl (decide_eq_true (congrArg Value.ref ha32)) (by decide) (by decide) ?_
    show Steps p.tables e below (T5.setTop (mkF m 42 #[.val (.ref a1)] [])) _
    refine XS.iconst X5.here hx rfl (hb hby d3_42) ?_
    show Steps p.tables e below (T5.setTop (mkF m 43 #[.val (.ref a1)] [(.int (1 : Int32))])) _
    refine XS.goto X5.here hx rfl (pc0 := 43) (pc' := 47) rfl (hb hby d3_43) (by decide) (by decide) ?_
    show Steps p.tables e below (T5.setTop (mkF m 47 #[.val (.ref a1)] [(.int (1 : Int32))])) _
    exact retN X5 hx (t := .boolean) Bd.returns (by simp) (hb hby d3_47) hr
  · show QP (some (.int (1 : Int32))) h0 n0 _ T5.heap _
    rw [e5]
    exact ⟨rfl, N0, rfl⟩
theorem d3_35 : decode method_3_code 35 = .ok (.aload_n 0, 1) := by decide +kernel
theorem d3_36 : decode method_3_code 36 = .ok (.getstatic 40, 3) := by decide +kernel
theorem d3_39 : decode method_3_code 39 = .ok (.if_acmp .ne 7, 3) := by decide +kernel
set_option maxRecDepth 65536 in
set_option maxHeartbeats 40000000 in
theorem rm3_5 (l : Launch) (Z : State) (a0 : Array Value) (hw : ∀ d ∈ tables_1, d.before a0 Z = true) (ws : List Jvm.Cond) (a1 : Addr) (w0 : Addr) (w1 : Addr) (w2 : Addr) (w3 : Addr) (w4 : Addr) (w5 : Addr) (h0 : Heap) (n0 : Nat) (Z0 : n0 ≤ h0.size) (S0 : Sta Z h0 "com/example/tabulon/tabulon/document/CellType" "NUMERIC" "Lcom/example/tabulon/tabulon/document/CellType;" (.ref w0)) (S1 : Sta Z h0 "com/example/tabulon/tabulon/document/CellType" "INT" "Lcom/example/tabulon/tabulon/document/CellType;" (.ref w1)) (S2 : Sta Z h0 "com/example/tabulon/tabulon/document/CellType" "DATE" "Lcom/example/tabulon/tabulon/document/CellType;" (.ref w2)) (S3 : Sta Z h0 "com/example/tabulon/tabulon/document/CellType" "DATE_TIME" "Lcom/example/tabulon/tabulon/document/CellType;" (.ref w3)) (S4 : Sta Z h0 "com/example/tabulon/tabulon/document/CellType" "REFERENCE" "Lcom/example/tabulon/tabulon/document/CellType;" (.ref w4)) (S5 : Sta Z h0 "com/example/tabulon/tabulon/document/CellType" "POSITION_NUMBER" "Lcom/example/tabulon/tabulon/document/CellType;" (.ref w5)) (ha4 : ¬ (a1 = w0)) (ha11 : ¬ (a1 = w1)) (ha18 : ¬ (a1 = w2)) (ha25 : ¬ (a1 = w3)) (ha32 : ¬ (a1 = w4)) (ha39 : a1 = w5) :
    MetFree l nm_3 (head1 (Jvm.Cond.code nm_3 method_3_code 1 (some .boolean) :: ws) rr0) (fun aa U => aa = #[(.ref a1)] ∧ Z.Warmed39 U.vm ∧ U.heap = h0) (fun _ _ _ _ _ => True) (fun _ U o U' => ∃ v L, o = .returned v ∧ QP (some (.int (1 : Int32))) h0 n0 v U'.heap L ∧ FrameEnd U o U' L rr0.cells rr0.slots) := by
  refine MetFree.of_bodySF (plainFor_of_name pn_com_example_tabulon_tabulon_document_CellTypeHoldsNumberPinLaw) hisR ?_
  intro p e s m args below meth c s₁ Bd hml0 hP hK
  obtain ⟨rfl, hZ, hh⟩ := hP
  have hx := Bd.exec
  have hby := Bd.bytes
  have hml : c.maxLocals = 1 := hml0
  have hown : s.vm.findClass "com/example/tabulon/tabulon/document/CellTypeHoldsNumberPinLaw" = some m.cls := findClass_of_methodNamed Bd.named
  have hnm := (name_of_methodNamed Bd.named Bd.method).1
  have X0 : Stand p l e rr0 s m #[(.ref a1)] below meth c s₁ [] 0 0 := Stand.of_body Bd
  have e0 : s₁.heap = h0 := by rw [← hh, Bd.state]; rfl
  have N0 := Fr.nil n0
  have pre0 : ∀ t, Steps p.tables e below (s₁.setTop (mkF m 0 #[.val (.ref a1)] [])) t → Steps p.tables e below (s₁.setTop (entryFrame m #[(.ref a1)] 1)) t := fun t k => castTop (ef_3 m a1) k
  obtain ⟨T1, X1, e1, st1⟩ := getS2 X0 hx hZ hown (host := "") (Or.inl (ow hw 5 rfl)) Via.refl e0 S0 (g := (mkF m 1 #[.val (.ref a1)] [(.ref a1)])) rfl (hb hby d3_1)
  obtain ⟨T2, X2, e2, st2⟩ := getS2 X1 hx hZ hown (host := "") (Or.inl (ow hw 24 rfl)) Via.refl e1 S1 (g := (mkF m 8 #[.val (.ref a1)] [(.ref a1)])) rfl (hb hby d3_8)
  obtain ⟨T3, X3, e3, st3⟩ := getS2 X2 hx hZ hown (host := "") (Or.inl (ow hw 26 rfl)) Via.refl e2 S2 (g := (mkF m 15 #[.val (.ref a1)] [(.ref a1)])) rfl (hb hby d3_15)
  obtain ⟨T4, X4, e4, st4⟩ := getS2 X3 hx hZ hown (host := "") (Or.inl (ow hw 28 rfl)) Via.refl e3 S3 (g := (mkF m 22 #[.val (.ref a1)] [(.ref a1)])) rfl (hb hby d3_22)
  obtain ⟨T5, X5, e5, st5⟩ := getS2 X4 hx hZ hown (host := "") (Or.inl (ow hw 30 rfl)) Via.refl e4 S4 (g := (mkF m 29 #[.val (.ref a1)] [(.ref a1)])) rfl (hb hby d3_29)
  obtain ⟨T6, X6, e6, st6⟩ := getS2 X5 hx hZ hown (host := "") (Or.inl (ow hw 32 rfl)) Via.refl e5 S5 (g := (mkF m 36 #[.val (.ref a1)] [(.ref a1)])) rfl (hb hby d3_36)
  obtain ⟨fs, hr, hrun, hended, hW, hsame⟩ := X6.leave (v := some (.int (1 : Int32))) (fun h => by rw [Bd.returns] at h; cases h)
  refine ⟨_, _, pre0 _ ?_, hrun, hended, _, _, rfl, ?_, ⟨_, rfl⟩, hW, hsame.mono (by decide) (by decide)⟩
  · show Steps p.tables e below (s₁.setTop (mkF m 0 #[.val (.ref a1)] [])) _
    refine XS.aloadN X0.here hx rfl (hb hby d3_0) rfl rfl ?_
    show Steps p.tables e below (s₁.setTop (mkF m 1 #[.val (.ref a1)] [(.ref a1)])) _
    refine st1 _ ?_
    show Steps p.tables e below (T1.setTop (mkF m 4 #[.val (.ref a1)] [(.ref w0), (.ref a1)])) _
    refine Jvm.RoadKit.acmp (g := (mkF m 4 #[.val (.ref a1)] [(.ref w0), (.ref a1)])) X1 hx rfl rfl rfl (pc0 := 4) (pc' := 7) (same := false) rfl (hb hby d3_4) rfl (decide_eq_false fun q => ha4 (Value.ref.inj q)) (by decide) (by decide) ?_
    show Steps p.tables e below (T1.setTop (mkF m 7 #[.val (.ref a1)] [])) _
    refine XS.aloadN X1.here hx rfl (hb hby d3_7) rfl rfl ?_
    show Steps p.tables e below (T1.setTop (mkF m 8 #[.val (.ref a1)] [(.ref a1)])) _
    refine st2 _ ?_
    show Steps p.tables e below (T2.setTop (mkF m 11 #[.val (.ref a1)] [(.ref w1), (.ref a1)])) _
    refine Jvm.RoadKit.acmp (g := (mkF m 11 #[.val (.ref a1)] [(.ref w1), (.ref a1)])) X2 hx rfl rfl rfl (pc0 := 11) (pc' := 14) (same := false) rfl (hb hby d3_11) rfl (decide_eq_false fun q => ha11 (Value.ref.inj q)) (by decide) (by decide) ?_
    show Steps p.tables e below (T2.setTop (mkF m 14 #[.val (.ref a1)] [])) _
    refine XS.aloadN X2.here hx rfl (hb hby d3_14) rfl rfl ?_
    show Steps p.tables e below (T2.setTop (mkF m 15 #[.val (.ref a1)] [(.ref a1)])) _
    refine st3 _ ?_
    show Steps p.tables e below (T3.setTop (mkF m 18 #[.val (.ref a1)] [(.ref w2), (.ref a1)])) _
    refine Jvm.RoadKit.acmp (g := (mkF m 18 #[.val (.ref a1)] [(.ref w2), (.ref a1)])) X3 hx rfl rfl rfl (pc0 := 18) (pc' := 21) (same := false) rfl (hb hby d3_18) rfl (decide_eq_false fun q => ha18 (Value.ref.inj q)) (by decide) (by decide) ?_
    show Steps p.tables e below (T3.setTop (mkF m 21 #[.val (.ref a1)] [])) _
    refine XS.aloadN X3.here hx rfl (hb hby d3_21) rfl rfl ?_
    show Steps p.tables e below (T3.setTop (mkF m 22 #[.val (.ref a1)] [(.ref a1)])) _
    refine st4 _ ?_
    show Steps p.tables e below (T4.setTop (mkF m 25 #[.val (.ref a1)] [(.ref w3), (.ref a1)])) _
    refine Jvm.RoadKit.acmp (g := (mkF m 25 #[.val (.ref a1)] [(.ref w3), (.ref a1)])) X4 hx rfl rfl rfl (pc0 := 25) (pc' := 28) (same := false) rfl (hb hby d3_25) rfl (decide_eq_false fun q => ha25 (Value.ref.inj q)) (by decide) (by decide) ?_
    show Steps p.tables e below (T4.setTop (mkF m 28 #[.val (.ref a1)] [])) _
    refine XS.aloadN X4.here hx rfl (hb hby d3_28) rfl rfl ?_
    show Steps p.tables e below (T4.setTop (mkF m 29 #[.val (.ref a1)] [(.ref a1)])) _
    refine st5 _ ?_
    show Steps p.tables e below (T5.setTop (mkF m 32 #[.val (.ref a1)] [(.ref w4), (.ref a1)])) _
    refine Jvm.RoadKit.acmp (g := (mkF m 32 #[.val (.ref a1)] [(.ref w4), (.ref a1)])) X5 hx rfl rfl rfl (pc0 := 32) (pc' := 35) (same := false) rfl (hb hby d3_32) rfl (decide_eq_false fun q => ha32 (Value.ref.inj q)) (by decide) (by decide) ?_
    show Steps p.tables e below (T5.setTop (mkF m 35 #[.val (.ref a1)] [])) _
    refine XS.aloadN X5.here hx rfl (hb hby d3_35) rfl rfl ?_
    show Steps p.tables e below (T5.setTop (mkF m 36 #[.val (.ref a1)] [(.ref a1)])) _
    refine st6 _ ?_
    show Steps p.tables e below (T6.setTop (mkF m 39 #[.val (.ref a1)] [(.ref w5), (.ref a1)])) _
    refine Jvm.RoadKit.acmp (g := (mkF m 39 #[.val (.ref a1)] [(.ref w5), (.ref a1)])) X6 hx rfl rfl rfl (pc0 := 39) (pc' := 42) (same := true) rfl (hb hby d3_39) rfl (decide_eq_true (congrArg Value.ref ha39)) (by decide) (by decide) ?_
    show Steps p.tables e below (T6.setTop (mkF m 42 #[.val (.ref a1)] [])) _
    refine XS.iconst X6.here hx rfl (hb hby d3_42) ?_
    show Steps p.tables e below (T6.setTop (mkF m 43 #[.val (.ref a1)] [(.int (1 : Int32))])) _
    refine XS.goto X6.here hx rfl (pc0 := 43) (pc' := 47) rfl (hb hby d3_43) (by decide) (by decide) ?_
    show Steps p.tables e below (T6.setTop (mkF m 47 #[.val (.ref a1)] [(.int (1 : Int32))])) _
    exact retN X6 hx (t := .boolean) Bd.returns (by simp) (hb hby d3_47) hr
  · show QP (some (.int (1 : Int32))) h0 n0 _ T6.heap _
    rw [e6]
    exact ⟨rfl, N0, rfl⟩
theorem d3_46 : decode method_3_code 46 = .ok (.iconst 0, 1) := by decide +kernel
set_option maxRecDepth 65536 in
set_option maxHeartbeats 40000000 in
theorem rm3_6 (l : Launch) (Z : State) (a0 : Array Value) (hw : ∀ d ∈ tables_1, d.before a0 Z = true) (ws : List Jvm.Cond) (a1 : Addr) (w0 : Addr) (w1 : Addr) (w2 : Addr) (w3 : Addr) (w4 : Addr) (w5 : Addr) (h0 : Heap) (n0 : Nat) (Z0 : n0 ≤ h0.size) (S0 : Sta Z h0 "com/example/tabulon/tabulon/document/CellType" "NUMERIC" "Lcom/example/tabulon/tabulon/document/CellType;" (.ref w0)) (S1 : Sta Z h0 "com/example/tabulon/tabulon/document/CellType" "INT" "Lcom/example/tabulon/tabulon/document/CellType;" (.ref w1)) (S2 : Sta Z h0 "com/example/tabulon/tabulon/document/CellType" "DATE" "Lcom/example/tabulon/tabulon/document/CellType;" (.ref w2)) (S3 : Sta Z h0 "com/example/tabulon/tabulon/document/CellType" "DATE_TIME" "Lcom/example/tabulon/tabulon/document/CellType;" (.ref w3)) (S4 : Sta Z h0 "com/example/tabulon/tabulon/document/CellType" "REFERENCE" "Lcom/example/tabulon/tabulon/document/CellType;" (.ref w4)) (S5 : Sta Z h0 "com/example/tabulon/tabulon/document/CellType" "POSITION_NUMBER" "Lcom/example/tabulon/tabulon/document/CellType;" (.ref w5)) (ha4 : ¬ (a1 = w0)) (ha11 : ¬ (a1 = w1)) (ha18 : ¬ (a1 = w2)) (ha25 : ¬ (a1 = w3)) (ha32 : ¬ (a1 = w4)) (ha39 : ¬ (a1 = w5)) :
    MetFree l nm_3 (head1 (Jvm.Cond.code nm_3 method_3_code 1 (some .boolean) :: ws) rr0) (fun aa U => aa = #[(.ref a1)] ∧ Z.Warmed39 U.vm ∧ U.heap = h0) (fun _ _ _ _ _ => True) (fun _ U o U' => ∃ v L, o = .returned v ∧ QP (some (.int (0 : Int32))) h0 n0 v U'.heap L ∧ FrameEnd U o U' L rr0.cells rr0.slots) := by
  refine MetFree.of_bodySF (plainFor_of_name pn_com_example_tabulon_tabulon_document_CellTypeHoldsNumberPinLaw) hisR ?_
  intro p e s m args below meth c s₁ Bd hml0 hP hK
  obtain ⟨rfl, hZ, hh⟩ := hP
  have hx := Bd.exec
  have hby := Bd.bytes
  have hml : c.maxLocals = 1 := hml0
  have hown : s.vm.findClass "com/example/tabulon/tabulon/document/CellTypeHoldsNumberPinLaw" = some m.cls := findClass_of_methodNamed Bd.named
  have hnm := (name_of_methodNamed Bd.named Bd.method).1
  have X0 : Stand p l e rr0 s m #[(.ref a1)] below meth c s₁ [] 0 0 := Stand.of_body Bd
  have e0 : s₁.heap = h0 := by rw [← hh, Bd.state]; rfl
  have N0 := Fr.nil n0
  have pre0 : ∀ t, Steps p.tables e below (s₁.setTop (mkF m 0 #[.val (.ref a1)] [])) t → Steps p.tables e below (s₁.setTop (entryFrame m #[(.ref a1)] 1)) t := fun t k => castTop (ef_3 m a1) k
  obtain ⟨T1, X1, e1, st1⟩ := getS2 X0 hx hZ hown (host := "") (Or.inl (ow hw 5 rfl)) Via.refl e0 S0 (g := (mkF m 1 #[.val (.ref a1)] [(.ref a1)])) rfl (hb hby d3_1)
  obtain ⟨T2, X2, e2, st2⟩ := getS2 X1 hx hZ hown (host := "") (Or.inl (ow hw 24 rfl)) Via.refl e1 S1 (g := (mkF m 8 #[.val (.ref a1)] [(.ref a1)])) rfl (hb hby d3_8)
  obtain ⟨T3, X3, e3, st3⟩ := getS2 X2 hx hZ hown (host := "") (Or.inl (ow hw 26 rfl)) Via.refl e2 S2 (g := (mkF m 15 #[.val (.ref a1)] [(.ref a1)])) rfl (hb hby d3_15)
  obtain ⟨T4, X4, e4, st4⟩ := getS2 X3 hx hZ hown (host := "") (Or.inl (ow hw 28 rfl)) Via.refl e3 S3 (g := (mkF m 22 #[.val (.ref a1)] [(.ref a1)])) rfl (hb hby d3_22)
  obtain ⟨T5, X5, e5, st5⟩ := getS2 X4 hx hZ hown (host := "") (Or.inl (ow hw 30 rfl)) Via.refl e4 S4 (g := (mkF m 29 #[.val (.ref a1)] [(.ref a1)])) rfl (hb hby d3_29)
  obtain ⟨T6, X6, e6, st6⟩ := getS2 X5 hx hZ hown (host := "") (Or.inl (ow hw 32 rfl)) Via.refl e5 S5 (g := (mkF m 36 #[.val (.ref a1)] [(.ref a1)])) rfl (hb hby d3_36)
  obtain ⟨fs, hr, hrun, hended, hW, hsame⟩ := X6.leave (v := some (.int (0 : Int32))) (fun h => by rw [Bd.returns] at h; cases h)
  refine ⟨_, _, pre0 _ ?_, hrun, hended, _, _, rfl, ?_, ⟨_, rfl⟩, hW, hsame.mono (by decide) (by decide)⟩
  · show Steps p.tables e below (s₁.setTop (mkF m 0 #[.val (.ref a1)] [])) _
    refine XS.aloadN X0.here hx rfl (hb hby d3_0) rfl rfl ?_
    show Steps p.tables e below (s₁.setTop (mkF m 1 #[.val (.ref a1)] [(.ref a1)])) _
    refine st1 _ ?_
    show Steps p.tables e below (T1.setTop (mkF m 4 #[.val (.ref a1)] [(.ref w0), (.ref a1)])) _
    refine Jvm.RoadKit.acmp (g := (mkF m 4 #[.val (.ref a1)] [(.ref w0), (.ref a1)])) X1 hx rfl rfl rfl (pc0 := 4) (pc' := 7) (same := false) rfl (hb hby d3_4) rfl (decide_eq_false fun q => ha4 (Value.ref.inj q)) (by decide) (by decide) ?_
    show Steps p.tables e below (T1.setTop (mkF m 7 #[.val (.ref a1)] [])) _
    refine XS.aloadN X1.here hx rfl (hb hby d3_7) rfl rfl ?_
    show Steps p.tables e below (T1.setTop (mkF m 8 #[.val (.ref a1)] [(.ref a1)])) _
    refine st2 _ ?_
    show Steps p.tables e below (T2.setTop (mkF m 11 #[.val (.ref a1)] [(.ref w1), (.ref a1)])) _
    refine Jvm.RoadKit.acmp (g := (mkF m 11 #[.val (.ref a1)] [(.ref w1), (.ref a1)])) X2 hx rfl rfl rfl (pc0 := 11) (pc' := 14) (same := false) rfl (hb hby d3_11) rfl (decide_eq_false fun q => ha11 (Value.ref.inj q)) (by decide) (by decide) ?_
    show Steps p.tables e below (T2.setTop (mkF m 14 #[.val (.ref a1)] [])) _
    refine XS.aloadN X2.here hx rfl (hb hby d3_14) rfl rfl ?_
    show Steps p.tables e below (T2.setTop (mkF m 15 #[.val (.ref a1)] [(.ref a1)])) _
    refine st3 _ ?_
    show Steps p.tables e below (T3.setTop (mkF m 18 #[.val (.ref a1)] [(.ref w2), (.ref a1)])) _
    refine Jvm.RoadKit.acmp (g := (mkF m 18 #[.val (.ref a1)] [(.ref w2), (.ref a1)])) X3 hx rfl rfl rfl (pc0 := 18) (pc' := 21) (same := false) rfl (hb hby d3_18) rfl (decide_eq_false fun q => ha18 (Value.ref.inj q)) (by decide) (by decide) ?_
    show Steps p.tables e below (T3.setTop (mkF m 21 #[.val (.ref a1)] [])) _
    refine XS.aloadN X3.here hx rfl (hb hby d3_21) rfl rfl ?_
    show Steps p.tables e below (T3.setTop (mkF m 22 #[.val (.ref a1)] [(.ref a1)])) _
    refine st4 _ ?_
    show Steps p.tables e below (T4.setTop (mkF m 25 #[.val (.ref a1)] [(.ref w3), (.ref a1)])) _
    refine Jvm.RoadKit.acmp (g := (mkF m 25 #[.val (.ref a1)] [(.ref w3), (.ref a1)])) X4 hx rfl rfl rfl (pc0 := 25) (pc' := 28) (same := false) rfl (hb hby d3_25) rfl (decide_eq_false fun q => ha25 (Value.ref.inj q)) (by decide) (by decide) ?_
    show Steps p.tables e below (T4.setTop (mkF m 28 #[.val (.ref a1)] [])) _
    refine XS.aloadN X4.here hx rfl (hb hby d3_28) rfl rfl ?_
    show Steps p.tables e below (T4.setTop (mkF m 29 #[.val (.ref a1)] [(.ref a1)])) _
    refine st5 _ ?_
    show Steps p.tables e below (T5.setTop (mkF m 32 #[.val (.ref a1)] [(.ref w4), (.ref a1)])) _
    refine Jvm.RoadKit.acmp (g := (mkF m 32 #[.val (.ref a1)] [(.ref w4), (.ref a1)])) X5 hx rfl rfl rfl (pc0 := 32) (pc' := 35) (same := false) rfl (hb hby d3_32) rfl (decide_eq_false fun q => ha32 (Value.ref.inj q)) (by decide) (by decide) ?_
    show Steps p.tables e below (T5.setTop (mkF m 35 #[.val (.ref a1)] [])) _
    refine XS.aloadN X5.here hx rfl (hb hby d3_35) rfl rfl ?_
    show Steps p.tables e below (T5.setTop (mkF m 36 #[.val (.ref a1)] [(.ref a1)])) _
    refine st6 _ ?_
    show Steps p.tables e below (T6.setTop (mkF m 39 #[.val (.ref a1)] [(.ref w5), (.ref a1)])) _
    refine Jvm.RoadKit.acmp (g := (mkF m 39 #[.val (.ref a1)] [(.ref w5), (.ref a1)])) X6 hx rfl rfl rfl (pc0 := 39) (pc' := 46) (same := false) rfl (hb hby d3_39) rfl (decide_eq_false fun q => ha39 (Value.ref.inj q)) (by decide) (by decide) ?_
    show Steps p.tables e below (T6.setTop (mkF m 46 #[.val (.ref a1)] [])) _
    refine XS.iconst X6.here hx rfl (hb hby d3_46) ?_
    show Steps p.tables e below (T6.setTop (mkF m 47 #[.val (.ref a1)] [(.int (0 : Int32))])) _
    exact retN X6 hx (t := .boolean) Bd.returns (by simp) (hb hby d3_47) hr
  · show QP (some (.int (0 : Int32))) h0 n0 _ T6.heap _
    rw [e6]
    exact ⟨rfl, N0, rfl⟩
theorem pd_0 : parseMethodDescriptor "(I)Lcom/example/tabulon/tabulon/document/CellType;" = some ⟨[.int], some (.object "com/example/tabulon/tabulon/document/CellType")⟩ := by decide +kernel
theorem pd_1 : parseMethodDescriptor "()Z" = some ⟨[], some .boolean⟩ := by decide +kernel
theorem pd_2 : parseMethodDescriptor "(Lcom/example/tabulon/tabulon/document/CellType;)Z" = some ⟨[(.object "com/example/tabulon/tabulon/document/CellType")], some .boolean⟩ := by decide +kernel
theorem ef_0 (m : MethodId) (x0 : Int32) : entryFrame m #[(.int x0)] maxLocals = mkF m 0 #[.val (.int x0), .unset, .unset] [] := by first | (simp [entryFrame, mkF, argsToLocals, Value.category, maxLocals]; done) | rfl
set_option maxRecDepth 65536 in
set_option maxHeartbeats 40000000 in
theorem rm0 (l : Launch) (Z : State) (a0 : Array Value) (hw : ∀ d ∈ tables_1, d.before a0 Z = true) (ws : List Jvm.Cond) (p1 : Int32) (a : Addr) (r : Int32) (h0 : Heap) (n0 : Nat) (Z0 : n0 ≤ h0.size) (hpick : MetFree l nm_1 (head1 (Jvm.Cond.code nm_1 method_2_code 1 (some (.object "com/example/tabulon/tabulon/document/CellType")) :: []) rr0) (fun aa U => aa = #[(.int ((p1 &&& (2147483647 : Int32)) % (15 : Int32)))] ∧ Z.Warmed39 U.vm ∧ U.heap = h0) (fun _ _ _ _ _ => True) (fun _ U o U' => ∃ v L, o = .returned v ∧ QP (some (.ref a)) h0 n0 v U'.heap L ∧ FrameEnd U o U' L rr0.cells rr0.slots)) (EA : Exa Z h0 a "com/example/tabulon/tabulon/document/CellType") (hholds : MetFree l nm_2 (head1 (Jvm.Cond.code nm_2 prog_18_method_8_code 1 (some .boolean) :: []) rr0) (fun aa U => aa = #[(.ref a)] ∧ Z.Warmed39 U.vm ∧ U.heap = h0) (fun _ _ _ _ _ => True) (fun _ U o U' => ∃ v L, o = .returned v ∧ QP (some (.int r)) h0 n0 v U'.heap L ∧ FrameEnd U o U' L rr0.cells rr0.slots)) (hdoc : MetFree l nm_3 (head1 (Jvm.Cond.code nm_3 method_3_code 1 (some .boolean) :: []) rr0) (fun aa U => aa = #[(.ref a)] ∧ Z.Warmed39 U.vm ∧ U.heap = h0) (fun _ _ _ _ _ => True) (fun _ U o U' => ∃ v L, o = .returned v ∧ QP (some (.int r)) h0 n0 v U'.heap L ∧ FrameEnd U o U' L rr0.cells rr0.slots)) :
    MetFree l x (head1 (Jvm.Cond.code x code maxLocals ret :: ws) room_1) (fun aa U => aa = #[(.int p1)] ∧ Z.Warmed39 U.vm ∧ U.heap = h0) (fun _ _ _ _ _ => True) (fun _ U o U' => ∃ v L, o = .returned v ∧ QP (some (.int (1 : Int32))) h0 n0 v U'.heap L ∧ FrameEnd U o U' L room_1.cells room_1.slots) := by
  refine MetFree.of_bodySF (plainFor_of_name pn_com_example_tabulon_tabulon_document_CellTypeHoldsNumberPinLaw) hisR ?_
  intro p e s m args below meth c s₁ Bd hml0 hP hK
  obtain ⟨rfl, hZ, hh⟩ := hP
  have hx := Bd.exec
  have hby := Bd.bytes
  have hml : c.maxLocals = 3 := hml0
  have hown : s.vm.findClass "com/example/tabulon/tabulon/document/CellTypeHoldsNumberPinLaw" = some m.cls := findClass_of_methodNamed Bd.named
  have hnm := (name_of_methodNamed Bd.named Bd.method).1
  have X0 : Stand p l e room_1 s m #[(.int p1)] below meth c s₁ [] 0 0 := Stand.of_body Bd
  have e0 : s₁.heap = h0 := by rw [← hh, Bd.state]; rfl
  have N0 := Fr.nil n0
  have pre0 : ∀ t, Steps p.tables e below (s₁.setTop (mkF m 0 #[.val (.int p1), .unset, .unset] [])) t → Steps p.tables e below (s₁.setTop (entryFrame m #[(.int p1)] maxLocals)) t := fun t k => castTop (ef_0 m p1) k
  obtain ⟨_, _, ⟨T1, L1, k1, n1⟩, -, X1, ⟨Lc1, hQ1, l1, y1, z1⟩, st1⟩ := Jvm.LawKit.callS X0 hx (y := nm_1) hown (mvT hZ (ow hw 1 rfl)) (mvT hZ (ow hw 2 rfl)) (mvT hZ (ow hw 3 rfl)) (mvT hZ (ow hw 4 rfl)) (by decide) (backOf (W := 0) (hpick) hZ (ow hw 4 rfl) (ow hw 3 rfl) (by decide) (by decide)) (g := (mkF m 9 #[.val (.int p1), .val (.int ((p1 &&& (2147483647 : Int32)) % (15 : Int32))), .unset] [(.int ((p1 &&& (2147483647 : Int32)) % (15 : Int32)))])) rfl (by rw [hml]; rfl) (argsL := [(.int ((p1 &&& (2147483647 : Int32)) % (15 : Int32)))]) (rest := []) (lenOf pd_0 rfl) rfl (by show 2 * 0 + _ ≤ _; exact Nat.le_of_eq rfl) (hb hby at_9) (fun _ _ => ⟨rfl, e0, (by decide : 0 + 0 ≤ _), (by decide : 0 + 0 ≤ _)⟩)
  dsimp only [Pt.U, Pt.locs, Pt.cells, Pt.slots] at X1 l1 y1 z1 st1 hQ1
  subst l1 y1 z1
  obtain ⟨rfl, N1q, e1⟩ := hQ1
  have N1 := Fr.app N0 N1q
  obtain ⟨cq2, kq2, q2a, q2b, q2c⟩ := isOf hZ e1 EA
  obtain ⟨_, _, ⟨T2, L2, k2, n2⟩, -, X2, ⟨Lc2, hQ2, l2, y2, z2⟩, st2⟩ := X1.virtualBack hx (y := nm_2) (z := nm_2) hown (mvT hZ (ow hw 8 rfl)) (mvT hZ (ow hw 9 rfl)) (notFace_of_selects (args := #[]) (mvT hZ (ow hw 11 rfl))) (mvT hZ (ow hw 11 rfl)) (mvT hZ (ow hw 10 rfl)) (by decide) (backOf (W := 0) (hholds) hZ (ow hw 12 rfl) (ow hw 6 rfl) (by decide) (by decide)) q2a q2c (g := (mkF m 14 #[.val (.int p1), .val (.int ((p1 &&& (2147483647 : Int32)) % (15 : Int32))), .val (.ref a)] [(.ref a)])) rfl (by rw [hml]; rfl) (Steps.refl _) (argsL := []) (rest := []) (lenOf pd_1 rfl) rfl (by show 2 * 0 + _ ≤ _; exact Nat.le_of_eq rfl) (hb hby at_14) (fun _ _ => ⟨rfl, e1, (by decide : 0 + 0 ≤ _), (by decide : 0 + 0 ≤ _)⟩)
  dsimp only [Pt.U, Pt.locs, Pt.cells, Pt.slots] at X2 l2 y2 z2 st2 hQ2
  subst l2 y2 z2
  obtain ⟨rfl, N2q, e2⟩ := hQ2
  have N2 := Fr.app N1 N2q
  obtain ⟨_, _, ⟨T3, L3, k3, n3⟩, -, X3, ⟨Lc3, hQ3, l3, y3, z3⟩, st3⟩ := Jvm.LawKit.callS X2 hx (y := nm_3) hown (mvT hZ (ow hw 18 rfl)) (mvT hZ (ow hw 19 rfl)) (mvT hZ (ow hw 3 rfl)) (mvT hZ (ow hw 20 rfl)) (by decide) (backOf (W := 1) (hdoc) hZ (ow hw 20 rfl) (ow hw 3 rfl) (by decide) (by decide)) (g := (mkF m 18 #[.val (.int p1), .val (.int ((p1 &&& (2147483647 : Int32)) % (15 : Int32))), .val (.ref a)] [(.ref a), (.int r)])) rfl (by rw [hml]; rfl) (argsL := [(.ref a)]) (rest := [(.int r)]) (lenOf pd_2 rfl) rfl (by show 2 * 0 + _ ≤ _; exact Nat.le_of_eq rfl) (hb hby at_18) (fun _ _ => ⟨rfl, e2, (by decide : 0 + 0 ≤ _), (by decide : 0 + 0 ≤ _)⟩)
  dsimp only [Pt.U, Pt.locs, Pt.cells, Pt.slots] at X3 l3 y3 z3 st3 hQ3
  subst l3 y3 z3
  obtain ⟨rfl, N3q, e3⟩ := hQ3
  have N3 := Fr.app N2 N3q
  obtain ⟨fs, hr, hrun, hended, hW, hsame⟩ := X3.leave (v := some (.int (1 : Int32))) (fun h => by rw [Bd.returns] at h; cases h)
  refine ⟨_, _, pre0 _ ?_, hrun, hended, _, _, rfl, ?_, ⟨_, rfl⟩, hW, hsame.mono (by decide) (by decide)⟩
  · show Steps p.tables e below (s₁.setTop (mkF m 0 #[.val (.int p1), .unset, .unset] [])) _
    refine XS.iloadN X0.here hx rfl (hb hby at_0) rfl ?_
    show Steps p.tables e below (s₁.setTop (mkF m 1 #[.val (.int p1), .unset, .unset] [(.int p1)])) _
    refine X0.ldcInt hx hown (mvT hZ (ow hw 0 rfl)) (g := (mkF m 1 #[.val (.int p1), .unset, .unset] [(.int p1)])) rfl (hb hby at_1) _ ?_
    show Steps p.tables e below (s₁.setTop (mkF m 3 #[.val (.int p1), .unset, .unset] [(.int (2147483647 : Int32)), (.int p1)])) _
    refine XS.iand X0.here hx rfl (hb hby at_3) rfl ?_
    show Steps p.tables e below (s₁.setTop (mkF m 4 #[.val (.int p1), .unset, .unset] [(.int (p1 &&& (2147483647 : Int32)))])) _
    refine XS.bipush X0.here hx rfl (hb hby at_4) ?_
    show Steps p.tables e below (s₁.setTop (mkF m 6 #[.val (.int p1), .unset, .unset] [(.int (15 : Int32)), (.int (p1 &&& (2147483647 : Int32)))])) _
    refine iremM X0 hx (g := (mkF m 6 #[.val (.int p1), .unset, .unset] [(.int (15 : Int32)), (.int (p1 &&& (2147483647 : Int32)))])) rfl (hb hby at_6) rfl (by decide) ?_
    show Steps p.tables e below (s₁.setTop (mkF m 7 #[.val (.int p1), .unset, .unset] [(.int ((p1 &&& (2147483647 : Int32)) % (15 : Int32)))])) _
    refine XS.istoreN X0.here hx rfl (hb hby at_7) rfl (l' := #[.val (.int p1), .val (.int ((p1 &&& (2147483647 : Int32)) % (15 : Int32))), .unset]) rfl ?_
    show Steps p.tables e below (s₁.setTop (mkF m 8 #[.val (.int p1), .val (.int ((p1 &&& (2147483647 : Int32)) % (15 : Int32))), .unset] [])) _
    refine XS.iloadN X0.here hx rfl (hb hby at_8) rfl ?_
    show Steps p.tables e below (s₁.setTop (mkF m 9 #[.val (.int p1), .val (.int ((p1 &&& (2147483647 : Int32)) % (15 : Int32))), .unset] [(.int ((p1 &&& (2147483647 : Int32)) % (15 : Int32)))])) _
    refine st1 _ ?_
    show Steps p.tables e below (T1.setTop (mkF m 12 #[.val (.int p1), .val (.int ((p1 &&& (2147483647 : Int32)) % (15 : Int32))), .unset] [(.ref a)])) _
    refine XS.astoreN X1.here hx rfl (hb hby at_12) rfl rfl (l' := #[.val (.int p1), .val (.int ((p1 &&& (2147483647 : Int32)) % (15 : Int32))), .val (.ref a)]) rfl ?_
    show Steps p.tables e below (T1.setTop (mkF m 13 #[.val (.int p1), .val (.int ((p1 &&& (2147483647 : Int32)) % (15 : Int32))), .val (.ref a)] [])) _
    refine XS.aloadN X1.here hx rfl (hb hby at_13) rfl rfl ?_
    show Steps p.tables e below (T1.setTop (mkF m 14 #[.val (.int p1), .val (.int ((p1 &&& (2147483647 : Int32)) % (15 : Int32))), .val (.ref a)] [(.ref a)])) _
    refine st2.trans ?_
    show Steps p.tables e below (T2.setTop (mkF m 17 #[.val (.int p1), .val (.int ((p1 &&& (2147483647 : Int32)) % (15 : Int32))), .val (.ref a)] [(.int r)])) _
    refine XS.aloadN X2.here hx rfl (hb hby at_17) rfl rfl ?_
    show Steps p.tables e below (T2.setTop (mkF m 18 #[.val (.int p1), .val (.int ((p1 &&& (2147483647 : Int32)) % (15 : Int32))), .val (.ref a)] [(.ref a), (.int r)])) _
    refine st3 _ ?_
    show Steps p.tables e below (T3.setTop (mkF m 21 #[.val (.int p1), .val (.int ((p1 &&& (2147483647 : Int32)) % (15 : Int32))), .val (.ref a)] [(.int r), (.int r)])) _
    refine XS.icmpNo X3.here hx rfl (hb hby at_21) rfl (teq (rfl : r = r)).2 ?_
    show Steps p.tables e below (T3.setTop (mkF m 24 #[.val (.int p1), .val (.int ((p1 &&& (2147483647 : Int32)) % (15 : Int32))), .val (.ref a)] [])) _
    refine XS.iconst X3.here hx rfl (hb hby at_24) ?_
    show Steps p.tables e below (T3.setTop (mkF m 25 #[.val (.int p1), .val (.int ((p1 &&& (2147483647 : Int32)) % (15 : Int32))), .val (.ref a)] [(.int (1 : Int32))])) _
    refine XS.goto X3.here hx rfl (pc0 := 25) (pc' := 29) rfl (hb hby at_25) (by decide) (by decide) ?_
    show Steps p.tables e below (T3.setTop (mkF m 29 #[.val (.int p1), .val (.int ((p1 &&& (2147483647 : Int32)) % (15 : Int32))), .val (.ref a)] [(.int (1 : Int32))])) _
    exact retN X3 hx (t := .boolean) Bd.returns (by simp) (hb hby at_29) hr
  · show QP (some (.int (1 : Int32))) h0 n0 _ T3.heap _
    rw [e3]
    exact ⟨rfl, N3, rfl⟩
set_option maxRecDepth 65536 in
set_option maxHeartbeats 40000000 in
theorem comes_1 {Post : Tables → Env → Array Value → State → Outcome → State → Prop} (hpost : ∀ tb e args s v u, (limb_1_1.after args s (.returned v) u = true ∧ limb_1_2.after args s (.returned v) u = true ∧ True) → FrameEnd s (.returned v) u (Jvm.fieldLocs frame_1_writes args s ++ Jvm.arrayLocs frame_1_arrays args s ++ Jvm.staticLocs frame_1_statics s) 0 0 → Post tb e args s (.returned v) u) :
    ArmFor flags0 classFile x code maxLocals ret World_1 tables_1 room_1 Calls_1 rest_1 Pre_1 Post := by
  intro l hfl _ _ p e ha hc hk s m args below hf hA hF happ hP
  obtain ⟨hcalls, hrest, hpre⟩ := hP
  obtain ⟨-, -, -, hnamed, -, -, -, hat⟩ := (Spec.applies_iff hf).mp happ
  obtain ⟨hg, hn⟩ := and_e (Cond.before_iff.mp (show (Jvm.Cond.and given_1 narrow_1).before args s = true from hpre))
  obtain ⟨hcount, hk0⟩ := and_e hg
  have ha0 := hk0
  obtain ⟨w0, rfl⟩ : ∃ w0 : Value, args = #[w0] := by
    have hs : args.size = 1 := by simpa [Cond.value, given_1] using hcount
    obtain ⟨L⟩ := args
    match L, hs with
    | [w0], _ => exact ⟨w0, rfl⟩
  obtain ⟨i0, ei0⟩ := is_v ha0
  obtain rfl : w0 = (.int i0) := Option.some.inj ei0
  have hw := fun d (hd : d ∈ tables_1) => atoms_spec (ws := Jvm.Cond.code x code maxLocals ret :: tables_1) hat d (List.mem_cons_of_mem _ hd)
  obtain ⟨hn_0, hm_0⟩ := and_e hn
  obtain ⟨A_CellType_NUMERIC, ev_CellType_NUMERIC⟩ := exa_v hn_0
  have E_CellType_NUMERIC := Exa.start ev_CellType_NUMERIC hn_0
  have S_CellType_NUMERIC := Sta.start ev_CellType_NUMERIC (Or.inr ⟨(hw _ (List.mem_of_getElem? (i := 6) rfl)), (hw _ (List.mem_of_getElem? (i := 7) rfl))⟩)
  obtain ⟨hn_1, hm_1⟩ := and_e hm_0
  obtain ⟨A_JsonKind_NUMBER, ev_JsonKind_NUMBER⟩ := exa_v hn_1
  have E_JsonKind_NUMBER := Exa.start ev_JsonKind_NUMBER hn_1
  have S_JsonKind_NUMBER := Sta.start ev_JsonKind_NUMBER (Or.inr ⟨(hw _ (List.mem_of_getElem? (i := 15) rfl)), (hw _ (List.mem_of_getElem? (i := 16) rfl))⟩)
  obtain ⟨hn_2, hm_2⟩ := and_e hm_1
  obtain ⟨hn_3, hm_3⟩ := and_e hm_2
  obtain ⟨A_CellType_NULL, ev_CellType_NULL⟩ := exa_v hn_3
  have E_CellType_NULL := Exa.start ev_CellType_NULL hn_3
  have S_CellType_NULL := Sta.start ev_CellType_NULL (Or.inr ⟨(hw _ (List.mem_of_getElem? (i := 6) rfl)), (hw _ (List.mem_of_getElem? (i := 22) rfl))⟩)
  obtain ⟨hn_4, hm_4⟩ := and_e hm_3
  obtain ⟨A_JsonKind_NULL, ev_JsonKind_NULL⟩ := exa_v hn_4
  have E_JsonKind_NULL := Exa.start ev_JsonKind_NULL hn_4
  have S_JsonKind_NULL := Sta.start ev_JsonKind_NULL (Or.inr ⟨(hw _ (List.mem_of_getElem? (i := 15) rfl)), (hw _ (List.mem_of_getElem? (i := 23) rfl))⟩)
  obtain ⟨hn_5, hm_5⟩ := and_e hm_4
  obtain ⟨hn_6, hm_6⟩ := and_e hm_5
  obtain ⟨hn_7, hm_7⟩ := and_e hm_6
  obtain ⟨hn_8, hm_8⟩ := and_e hm_7
  obtain ⟨hn_9, hm_9⟩ := and_e hm_8
  obtain ⟨hn_10, hm_10⟩ := and_e hm_9
  obtain ⟨A_CellType_INT, ev_CellType_INT⟩ := exa_v hn_10
  have E_CellType_INT := Exa.start ev_CellType_INT hn_10
  have S_CellType_INT := Sta.start ev_CellType_INT (Or.inr ⟨(hw _ (List.mem_of_getElem? (i := 6) rfl)), (hw _ (List.mem_of_getElem? (i := 25) rfl))⟩)
  obtain ⟨hn_11, hm_11⟩ := and_e hm_10
  obtain ⟨hn_12, hm_12⟩ := and_e hm_11
  obtain ⟨A_CellType_DATE, ev_CellType_DATE⟩ := exa_v hn_12
  have E_CellType_DATE := Exa.start ev_CellType_DATE hn_12
  have S_CellType_DATE := Sta.start ev_CellType_DATE (Or.inr ⟨(hw _ (List.mem_of_getElem? (i := 6) rfl)), (hw _ (List.mem_of_getElem? (i := 27) rfl))⟩)
  obtain ⟨hn_13, hm_13⟩ := and_e hm_12
  obtain ⟨hn_14, hm_14⟩ := and_e hm_13
  obtain ⟨A_CellType_DATE_TIME, ev_CellType_DATE_TIME⟩ := exa_v hn_14
  have E_CellType_DATE_TIME := Exa.start ev_CellType_DATE_TIME hn_14
  have S_CellType_DATE_TIME := Sta.start ev_CellType_DATE_TIME (Or.inr ⟨(hw _ (List.mem_of_getElem? (i := 6) rfl)), (hw _ (List.mem_of_getElem? (i := 29) rfl))⟩)
  obtain ⟨hn_15, hm_15⟩ := and_e hm_14
  obtain ⟨hn_16, hm_16⟩ := and_e hm_15
  obtain ⟨A_CellType_REFERENCE, ev_CellType_REFERENCE⟩ := exa_v hn_16
  have E_CellType_REFERENCE := Exa.start ev_CellType_REFERENCE hn_16
  have S_CellType_REFERENCE := Sta.start ev_CellType_REFERENCE (Or.inr ⟨(hw _ (List.mem_of_getElem? (i := 6) rfl)), (hw _ (List.mem_of_getElem? (i := 31) rfl))⟩)
  obtain ⟨hn_17, hm_17⟩ := and_e hm_16
  obtain ⟨hn_18, hm_18⟩ := and_e hm_17
  obtain ⟨A_CellType_POSITION_NUMBER, ev_CellType_POSITION_NUMBER⟩ := exa_v hn_18
  have E_CellType_POSITION_NUMBER := Exa.start ev_CellType_POSITION_NUMBER hn_18
  have S_CellType_POSITION_NUMBER := Sta.start ev_CellType_POSITION_NUMBER (Or.inr ⟨(hw _ (List.mem_of_getElem? (i := 6) rfl)), (hw _ (List.mem_of_getElem? (i := 33) rfl))⟩)
  obtain ⟨hn_19, hm_19⟩ := and_e hm_18
  obtain ⟨hn_20, hm_20⟩ := and_e hm_19
  obtain ⟨hn_21, hm_21⟩ := and_e hm_20
  obtain ⟨A_CellType_JSON, ev_CellType_JSON⟩ := exa_v hn_21
  have E_CellType_JSON := Exa.start ev_CellType_JSON hn_21
  have S_CellType_JSON := Sta.start ev_CellType_JSON (Or.inr ⟨(hw _ (List.mem_of_getElem? (i := 6) rfl)), (hw _ (List.mem_of_getElem? (i := 35) rfl))⟩)
  obtain ⟨hn_22, hm_22⟩ := and_e hm_21
  obtain ⟨hn_23, hm_23⟩ := and_e hm_22
  obtain ⟨hn_24, hm_24⟩ := and_e hm_23
  obtain ⟨hn_25, hm_25⟩ := and_e hm_24
  obtain ⟨A_CellType_ERROR, ev_CellType_ERROR⟩ := exa_v hn_25
  have E_CellType_ERROR := Exa.start ev_CellType_ERROR hn_25
  have S_CellType_ERROR := Sta.start ev_CellType_ERROR (Or.inr ⟨(hw _ (List.mem_of_getElem? (i := 6) rfl)), (hw _ (List.mem_of_getElem? (i := 37) rfl))⟩)
  obtain ⟨hn_26, hm_26⟩ := and_e hm_25
  obtain ⟨hn_27, hm_27⟩ := and_e hm_26
  obtain ⟨hn_28, hm_28⟩ := and_e hm_27
  obtain ⟨hn_29, hm_29⟩ := and_e hm_28
  obtain ⟨A_CellType_BOOL, ev_CellType_BOOL⟩ := exa_v hn_29
  have E_CellType_BOOL := Exa.start ev_CellType_BOOL hn_29
  have S_CellType_BOOL := Sta.start ev_CellType_BOOL (Or.inr ⟨(hw _ (List.mem_of_getElem? (i := 6) rfl)), (hw _ (List.mem_of_getElem? (i := 39) rfl))⟩)
  obtain ⟨hn_30, hm_30⟩ := and_e hm_29
  obtain ⟨A_JsonKind_BOOLEAN, ev_JsonKind_BOOLEAN⟩ := exa_v hn_30
  have E_JsonKind_BOOLEAN := Exa.start ev_JsonKind_BOOLEAN hn_30
  have S_JsonKind_BOOLEAN := Sta.start ev_JsonKind_BOOLEAN (Or.inr ⟨(hw _ (List.mem_of_getElem? (i := 15) rfl)), (hw _ (List.mem_of_getElem? (i := 40) rfl))⟩)
  obtain ⟨hn_31, hm_31⟩ := and_e hm_30
  obtain ⟨hn_32, hm_32⟩ := and_e hm_31
  obtain ⟨hn_33, hm_33⟩ := and_e hm_32
  obtain ⟨hn_34, hm_34⟩ := and_e hm_33
  obtain ⟨A_CellType_IMAGE, ev_CellType_IMAGE⟩ := exa_v hn_34
  have E_CellType_IMAGE := Exa.start ev_CellType_IMAGE hn_34
  have S_CellType_IMAGE := Sta.start ev_CellType_IMAGE (Or.inr ⟨(hw _ (List.mem_of_getElem? (i := 6) rfl)), (hw _ (List.mem_of_getElem? (i := 42) rfl))⟩)
  obtain ⟨hn_35, hm_35⟩ := and_e hm_34
  obtain ⟨hn_36, hm_36⟩ := and_e hm_35
  obtain ⟨hn_37, hm_37⟩ := and_e hm_36
  obtain ⟨hn_38, hm_38⟩ := and_e hm_37
  obtain ⟨A_CellType_REFERENCE_LIST, ev_CellType_REFERENCE_LIST⟩ := exa_v hn_38
  have E_CellType_REFERENCE_LIST := Exa.start ev_CellType_REFERENCE_LIST hn_38
  have S_CellType_REFERENCE_LIST := Sta.start ev_CellType_REFERENCE_LIST (Or.inr ⟨(hw _ (List.mem_of_getElem? (i := 6) rfl)), (hw _ (List.mem_of_getElem? (i := 44) rfl))⟩)
  obtain ⟨hn_39, hm_39⟩ := and_e hm_38
  obtain ⟨hn_40, hm_40⟩ := and_e hm_39
  obtain ⟨hn_41, hm_41⟩ := and_e hm_40
  obtain ⟨A_CellType_TEXT, ev_CellType_TEXT⟩ := exa_v hn_41
  have E_CellType_TEXT := Exa.start ev_CellType_TEXT hn_41
  have S_CellType_TEXT := Sta.start ev_CellType_TEXT (Or.inr ⟨(hw _ (List.mem_of_getElem? (i := 6) rfl)), (hw _ (List.mem_of_getElem? (i := 46) rfl))⟩)
  obtain ⟨hn_42, hm_42⟩ := and_e hm_41
  obtain ⟨A_JsonKind_STRING, ev_JsonKind_STRING⟩ := exa_v hn_42
  have E_JsonKind_STRING := Exa.start ev_JsonKind_STRING hn_42
  have S_JsonKind_STRING := Sta.start ev_JsonKind_STRING (Or.inr ⟨(hw _ (List.mem_of_getElem? (i := 15) rfl)), (hw _ (List.mem_of_getElem? (i := 47) rfl))⟩)
  obtain ⟨hn_43, hm_43⟩ := and_e hm_42
  obtain ⟨hn_44, hm_44⟩ := and_e hm_43
  obtain ⟨hn_45, hm_45⟩ := and_e hm_44
  obtain ⟨hn_46, hm_46⟩ := and_e hm_45
  obtain ⟨A_CellType_LIST, ev_CellType_LIST⟩ := exa_v hn_46
  have E_CellType_LIST := Exa.start ev_CellType_LIST hn_46
  have S_CellType_LIST := Sta.start ev_CellType_LIST (Or.inr ⟨(hw _ (List.mem_of_getElem? (i := 6) rfl)), (hw _ (List.mem_of_getElem? (i := 49) rfl))⟩)
  obtain ⟨hn_47, hm_47⟩ := and_e hm_46
  obtain ⟨hn_48, hm_48⟩ := and_e hm_47
  obtain ⟨hn_49, hm_49⟩ := and_e hm_48
  obtain ⟨hn_50, hm_50⟩ := and_e hm_49
  obtain ⟨A_CellType_CHOICE, ev_CellType_CHOICE⟩ := exa_v hn_50
  have E_CellType_CHOICE := Exa.start ev_CellType_CHOICE hn_50
  have S_CellType_CHOICE := Sta.start ev_CellType_CHOICE (Or.inr ⟨(hw _ (List.mem_of_getElem? (i := 6) rfl)), (hw _ (List.mem_of_getElem? (i := 51) rfl))⟩)
  obtain ⟨hn_51, hm_51⟩ := and_e hm_50
  have F_CellType_NUMERIC_shortKind := own_fldR ev_CellType_NUMERIC ev_JsonKind_NUMBER hn_2
  have F_CellType_NULL_shortKind := own_fldR ev_CellType_NULL ev_JsonKind_NULL hn_5
  have F_JsonKind_NULL_ordinal := own_fldI ev_JsonKind_NULL hn_6
  have F_JsonKind_NUMBER_ordinal := own_fldI ev_JsonKind_NUMBER hn_7
  have F_CellType_NULL_ordinal := own_fldI ev_CellType_NULL hn_8
  have F_CellType_NUMERIC_ordinal := own_fldI ev_CellType_NUMERIC hn_9
  have F_CellType_INT_ordinal := own_fldI ev_CellType_INT hn_11
  have F_CellType_DATE_ordinal := own_fldI ev_CellType_DATE hn_13
  have F_CellType_DATE_TIME_ordinal := own_fldI ev_CellType_DATE_TIME hn_15
  have F_CellType_REFERENCE_ordinal := own_fldI ev_CellType_REFERENCE hn_17
  have F_CellType_POSITION_NUMBER_ordinal := own_fldI ev_CellType_POSITION_NUMBER hn_19
  have F_CellType_DATE_shortKind := own_fldR ev_CellType_DATE ev_JsonKind_NUMBER hn_20
  have F_CellType_JSON_shortKind := own_fldN ev_CellType_JSON hn_22
  have F_CellType_JSON_ordinal := own_fldI ev_CellType_JSON hn_23
  have F_CellType_DATE_TIME_shortKind := own_fldR ev_CellType_DATE_TIME ev_JsonKind_NUMBER hn_24
  have F_CellType_ERROR_shortKind := own_fldN ev_CellType_ERROR hn_26
  have F_CellType_ERROR_ordinal := own_fldI ev_CellType_ERROR hn_27
  have F_CellType_REFERENCE_shortKind := own_fldR ev_CellType_REFERENCE ev_JsonKind_NUMBER hn_28
  have F_CellType_BOOL_shortKind := own_fldR ev_CellType_BOOL ev_JsonKind_BOOLEAN hn_31
  have F_JsonKind_BOOLEAN_ordinal := own_fldI ev_JsonKind_BOOLEAN hn_32
  have F_CellType_BOOL_ordinal := own_fldI ev_CellType_BOOL hn_33
  have F_CellType_IMAGE_shortKind := own_fldN ev_CellType_IMAGE hn_35
  have F_CellType_IMAGE_ordinal := own_fldI ev_CellType_IMAGE hn_36
  have F_CellType_POSITION_NUMBER_shortKind := own_fldR ev_CellType_POSITION_NUMBER ev_JsonKind_NUMBER hn_37
  have F_CellType_REFERENCE_LIST_shortKind := own_fldN ev_CellType_REFERENCE_LIST hn_39
  have F_CellType_REFERENCE_LIST_ordinal := own_fldI ev_CellType_REFERENCE_LIST hn_40
  have F_CellType_TEXT_shortKind := own_fldR ev_CellType_TEXT ev_JsonKind_STRING hn_43
  have F_JsonKind_STRING_ordinal := own_fldI ev_JsonKind_STRING hn_44
  have F_CellType_TEXT_ordinal := own_fldI ev_CellType_TEXT hn_45
  have F_CellType_LIST_shortKind := own_fldN ev_CellType_LIST hn_47
  have F_CellType_LIST_ordinal := own_fldI ev_CellType_LIST hn_48
  have F_CellType_INT_shortKind := own_fldR ev_CellType_INT ev_JsonKind_NUMBER hn_49
  have F_CellType_CHOICE_shortKind := own_fldR ev_CellType_CHOICE ev_JsonKind_STRING hn_51
  have F_CellType_CHOICE_ordinal := own_fldI ev_CellType_CHOICE hm_51
  have hmain : MetFree l x (head1 (Jvm.Cond.code x code maxLocals ret :: tables_1) room_1) (fun a U => a = #[(.int i0)] ∧ s.Warmed39 U.vm ∧ U.heap = s.heap) (fun _ _ _ _ _ => True) (fun _ U o U' => ∃ v L, o = .returned v ∧ QP (some (.int (1 : Int32))) s.heap s.heap.size v U'.heap L ∧ FrameEnd U o U' L room_1.cells room_1.slots) := by
    rcases own_mod15 i0 with q | q | q | q | q | q | q | q | q | q | q | q | q | q | q
    · exact rm0 l s _ hw tables_1 i0 A_CellType_NUMERIC (1 : Int32) s.heap s.heap.size (Nat.le_refl _) (rm1_0 l s _ hw [] _ A_CellType_NUMERIC s.heap s.heap.size (Nat.le_refl _) S_CellType_NUMERIC q) E_CellType_NUMERIC (rm2_f l s _ hw [] A_CellType_NUMERIC _ A_JsonKind_NUMBER s.heap s.heap.size (Nat.le_refl _) rfl F_CellType_NUMERIC_shortKind S_JsonKind_NUMBER rfl) (rm3_0 l s _ hw [] A_CellType_NUMERIC A_CellType_NUMERIC A_CellType_INT A_CellType_DATE A_CellType_DATE_TIME A_CellType_REFERENCE A_CellType_POSITION_NUMBER s.heap s.heap.size (Nat.le_refl _) S_CellType_NUMERIC S_CellType_INT S_CellType_DATE S_CellType_DATE_TIME S_CellType_REFERENCE S_CellType_POSITION_NUMBER  rfl)
    · exact rm0 l s _ hw tables_1 i0 A_CellType_TEXT (0 : Int32) s.heap s.heap.size (Nat.le_refl _) (rm1_1 l s _ hw [] _ A_CellType_TEXT s.heap s.heap.size (Nat.le_refl _) S_CellType_TEXT (by rw [q]; decide) q) E_CellType_TEXT (rm2_t l s _ hw [] A_CellType_TEXT _ A_JsonKind_NUMBER s.heap s.heap.size (Nat.le_refl _) rfl F_CellType_TEXT_shortKind S_JsonKind_NUMBER (fun z => own_ne F_JsonKind_STRING_ordinal F_JsonKind_NUMBER_ordinal (by decide) (Value.ref.inj z))) (rm3_6 l s _ hw [] A_CellType_TEXT A_CellType_NUMERIC A_CellType_INT A_CellType_DATE A_CellType_DATE_TIME A_CellType_REFERENCE A_CellType_POSITION_NUMBER s.heap s.heap.size (Nat.le_refl _) S_CellType_NUMERIC S_CellType_INT S_CellType_DATE S_CellType_DATE_TIME S_CellType_REFERENCE S_CellType_POSITION_NUMBER (own_ne F_CellType_TEXT_ordinal F_CellType_NUMERIC_ordinal (by decide)) (own_ne F_CellType_TEXT_ordinal F_CellType_INT_ordinal (by decide)) (own_ne F_CellType_TEXT_ordinal F_CellType_DATE_ordinal (by decide)) (own_ne F_CellType_TEXT_ordinal F_CellType_DATE_TIME_ordinal (by decide)) (own_ne F_CellType_TEXT_ordinal F_CellType_REFERENCE_ordinal (by decide)) (own_ne F_CellType_TEXT_ordinal F_CellType_POSITION_NUMBER_ordinal (by decide)) )
    · exact rm0 l s _ hw tables_1 i0 A_CellType_BOOL (0 : Int32) s.heap s.heap.size (Nat.le_refl _) (rm1_2 l s _ hw [] _ A_CellType_BOOL s.heap s.heap.size (Nat.le_refl _) S_CellType_BOOL (by rw [q]; decide) (by rw [q]; decide) q) E_CellType_BOOL (rm2_t l s _ hw [] A_CellType_BOOL _ A_JsonKind_NUMBER s.heap s.heap.size (Nat.le_refl _) rfl F_CellType_BOOL_shortKind S_JsonKind_NUMBER (fun z => own_ne F_JsonKind_BOOLEAN_ordinal F_JsonKind_NUMBER_ordinal (by decide) (Value.ref.inj z))) (rm3_6 l s _ hw [] A_CellType_BOOL A_CellType_NUMERIC A_CellType_INT A_CellType_DATE A_CellType_DATE_TIME A_CellType_REFERENCE A_CellType_POSITION_NUMBER s.heap s.heap.size (Nat.le_refl _) S_CellType_NUMERIC S_CellType_INT S_CellType_DATE S_CellType_DATE_TIME S_CellType_REFERENCE S_CellType_POSITION_NUMBER (own_ne F_CellType_BOOL_ordinal F_CellType_NUMERIC_ordinal (by decide)) (own_ne F_CellType_BOOL_ordinal F_CellType_INT_ordinal (by decide)) (own_ne F_CellType_BOOL_ordinal F_CellType_DATE_ordinal (by decide)) (own_ne F_CellType_BOOL_ordinal F_CellType_DATE_TIME_ordinal (by decide)) (own_ne F_CellType_BOOL_ordinal F_CellType_REFERENCE_ordinal (by decide)) (own_ne F_CellType_BOOL_ordinal F_CellType_POSITION_NUMBER_ordinal (by decide)) )
    · exact rm0 l s _ hw tables_1 i0 A_CellType_NULL (0 : Int32) s.heap s.heap.size (Nat.le_refl _) (rm1_3 l s _ hw [] _ A_CellType_NULL s.heap s.heap.size (Nat.le_refl _) S_CellType_NULL (by rw [q]; decide) (by rw [q]; decide) (by rw [q]; decide) q) E_CellType_NULL (rm2_t l s _ hw [] A_CellType_NULL _ A_JsonKind_NUMBER s.heap s.heap.size (Nat.le_refl _) rfl F_CellType_NULL_shortKind S_JsonKind_NUMBER (fun z => own_ne F_JsonKind_NULL_ordinal F_JsonKind_NUMBER_ordinal (by decide) (Value.ref.inj z))) (rm3_6 l s _ hw [] A_CellType_NULL A_CellType_NUMERIC A_CellType_INT A_CellType_DATE A_CellType_DATE_TIME A_CellType_REFERENCE A_CellType_POSITION_NUMBER s.heap s.heap.size (Nat.le_refl _) S_CellType_NUMERIC S_CellType_INT S_CellType_DATE S_CellType_DATE_TIME S_CellType_REFERENCE S_CellType_POSITION_NUMBER (own_ne F_CellType_NULL_ordinal F_CellType_NUMERIC_ordinal (by decide)) (own_ne F_CellType_NULL_ordinal F_CellType_INT_ordinal (by decide)) (own_ne F_CellType_NULL_ordinal F_CellType_DATE_ordinal (by decide)) (own_ne F_CellType_NULL_ordinal F_CellType_DATE_TIME_ordinal (by decide)) (own_ne F_CellType_NULL_ordinal F_CellType_REFERENCE_ordinal (by decide)) (own_ne F_CellType_NULL_ordinal F_CellType_POSITION_NUMBER_ordinal (by decide)) )
    · exact rm0 l s _ hw tables_1 i0 A_CellType_INT (1 : Int32) s.heap s.heap.size (Nat.le_refl _) (rm1_4 l s _ hw [] _ A_CellType_INT s.heap s.heap.size (Nat.le_refl _) S_CellType_INT (by rw [q]; decide) (by rw [q]; decide) (by rw [q]; decide) (by rw [q]; decide) q) E_CellType_INT (rm2_f l s _ hw [] A_CellType_INT _ A_JsonKind_NUMBER s.heap s.heap.size (Nat.le_refl _) rfl F_CellType_INT_shortKind S_JsonKind_NUMBER rfl) (rm3_1 l s _ hw [] A_CellType_INT A_CellType_NUMERIC A_CellType_INT A_CellType_DATE A_CellType_DATE_TIME A_CellType_REFERENCE A_CellType_POSITION_NUMBER s.heap s.heap.size (Nat.le_refl _) S_CellType_NUMERIC S_CellType_INT S_CellType_DATE S_CellType_DATE_TIME S_CellType_REFERENCE S_CellType_POSITION_NUMBER (own_ne F_CellType_INT_ordinal F_CellType_NUMERIC_ordinal (by decide)) rfl)
    · exact rm0 l s _ hw tables_1 i0 A_CellType_DATE (1 : Int32) s.heap s.heap.size (Nat.le_refl _) (rm1_5 l s _ hw [] _ A_CellType_DATE s.heap s.heap.size (Nat.le_refl _) S_CellType_DATE (by rw [q]; decide) (by rw [q]; decide) (by rw [q]; decide) (by rw [q]; decide) (by rw [q]; decide) q) E_CellType_DATE (rm2_f l s _ hw [] A_CellType_DATE _ A_JsonKind_NUMBER s.heap s.heap.size (Nat.le_refl _) rfl F_CellType_DATE_shortKind S_JsonKind_NUMBER rfl) (rm3_2 l s _ hw [] A_CellType_DATE A_CellType_NUMERIC A_CellType_INT A_CellType_DATE A_CellType_DATE_TIME A_CellType_REFERENCE A_CellType_POSITION_NUMBER s.heap s.heap.size (Nat.le_refl _) S_CellType_NUMERIC S_CellType_INT S_CellType_DATE S_CellType_DATE_TIME S_CellType_REFERENCE S_CellType_POSITION_NUMBER (own_ne F_CellType_DATE_ordinal F_CellType_NUMERIC_ordinal (by decide)) (own_ne F_CellType_DATE_ordinal F_CellType_INT_ordinal (by decide)) rfl)
    · exact rm0 l s _ hw tables_1 i0 A_CellType_DATE_TIME (1 : Int32) s.heap s.heap.size (Nat.le_refl _) (rm1_6 l s _ hw [] _ A_CellType_DATE_TIME s.heap s.heap.size (Nat.le_refl _) S_CellType_DATE_TIME (by rw [q]; decide) (by rw [q]; decide) (by rw [q]; decide) (by rw [q]; decide) (by rw [q]; decide) (by rw [q]; decide) q) E_CellType_DATE_TIME (rm2_f l s _ hw [] A_CellType_DATE_TIME _ A_JsonKind_NUMBER s.heap s.heap.size (Nat.le_refl _) rfl F_CellType_DATE_TIME_shortKind S_JsonKind_NUMBER rfl) (rm3_3 l s _ hw [] A_CellType_DATE_TIME A_CellType_NUMERIC A_CellType_INT A_CellType_DATE A_CellType_DATE_TIME A_CellType_REFERENCE A_CellType_POSITION_NUMBER s.heap s.heap.size (Nat.le_refl _) S_CellType_NUMERIC S_CellType_INT S_CellType_DATE S_CellType_DATE_TIME S_CellType_REFERENCE S_CellType_POSITION_NUMBER (own_ne F_CellType_DATE_TIME_ordinal F_CellType_NUMERIC_ordinal (by decide)) (own_ne F_CellType_DATE_TIME_ordinal F_CellType_INT_ordinal (by decide)) (own_ne F_CellType_DATE_TIME_ordinal F_CellType_DATE_ordinal (by decide)) rfl)
    · exact rm0 l s _ hw tables_1 i0 A_CellType_REFERENCE (1 : Int32) s.heap s.heap.size (Nat.le_refl _) (rm1_7 l s _ hw [] _ A_CellType_REFERENCE s.heap s.heap.size (Nat.le_refl _) S_CellType_REFERENCE (by rw [q]; decide) (by rw [q]; decide) (by rw [q]; decide) (by rw [q]; decide) (by rw [q]; decide) (by rw [q]; decide) (by rw [q]; decide) q) E_CellType_REFERENCE (rm2_f l s _ hw [] A_CellType_REFERENCE _ A_JsonKind_NUMBER s.heap s.heap.size (Nat.le_refl _) rfl F_CellType_REFERENCE_shortKind S_JsonKind_NUMBER rfl) (rm3_4 l s _ hw [] A_CellType_REFERENCE A_CellType_NUMERIC A_CellType_INT A_CellType_DATE A_CellType_DATE_TIME A_CellType_REFERENCE A_CellType_POSITION_NUMBER s.heap s.heap.size (Nat.le_refl _) S_CellType_NUMERIC S_CellType_INT S_CellType_DATE S_CellType_DATE_TIME S_CellType_REFERENCE S_CellType_POSITION_NUMBER (own_ne F_CellType_REFERENCE_ordinal F_CellType_NUMERIC_ordinal (by decide)) (own_ne F_CellType_REFERENCE_ordinal F_CellType_INT_ordinal (by decide)) (own_ne F_CellType_REFERENCE_ordinal F_CellType_DATE_ordinal (by decide)) (own_ne F_CellType_REFERENCE_ordinal F_CellType_DATE_TIME_ordinal (by decide)) rfl)
    · exact rm0 l s _ hw tables_1 i0 A_CellType_REFERENCE_LIST (0 : Int32) s.heap s.heap.size (Nat.le_refl _) (rm1_8 l s _ hw [] _ A_CellType_REFERENCE_LIST s.heap s.heap.size (Nat.le_refl _) S_CellType_REFERENCE_LIST (by rw [q]; decide) (by rw [q]; decide) (by rw [q]; decide) (by rw [q]; decide) (by rw [q]; decide) (by rw [q]; decide) (by rw [q]; decide) (by rw [q]; decide) q) E_CellType_REFERENCE_LIST (rm2_t l s _ hw [] A_CellType_REFERENCE_LIST _ A_JsonKind_NUMBER s.heap s.heap.size (Nat.le_refl _) rfl F_CellType_REFERENCE_LIST_shortKind S_JsonKind_NUMBER nofun) (rm3_6 l s _ hw [] A_CellType_REFERENCE_LIST A_CellType_NUMERIC A_CellType_INT A_CellType_DATE A_CellType_DATE_TIME A_CellType_REFERENCE A_CellType_POSITION_NUMBER s.heap s.heap.size (Nat.le_refl _) S_CellType_NUMERIC S_CellType_INT S_CellType_DATE S_CellType_DATE_TIME S_CellType_REFERENCE S_CellType_POSITION_NUMBER (own_ne F_CellType_REFERENCE_LIST_ordinal F_CellType_NUMERIC_ordinal (by decide)) (own_ne F_CellType_REFERENCE_LIST_ordinal F_CellType_INT_ordinal (by decide)) (own_ne F_CellType_REFERENCE_LIST_ordinal F_CellType_DATE_ordinal (by decide)) (own_ne F_CellType_REFERENCE_LIST_ordinal F_CellType_DATE_TIME_ordinal (by decide)) (own_ne F_CellType_REFERENCE_LIST_ordinal F_CellType_REFERENCE_ordinal (by decide)) (own_ne F_CellType_REFERENCE_LIST_ordinal F_CellType_POSITION_NUMBER_ordinal (by decide)) )
    · exact rm0 l s _ hw tables_1 i0 A_CellType_CHOICE (0 : Int32) s.heap s.heap.size (Nat.le_refl _) (rm1_9 l s _ hw [] _ A_CellType_CHOICE s.heap s.heap.size (Nat.le_refl _) S_CellType_CHOICE (by rw [q]; decide) (by rw [q]; decide) (by rw [q]; decide) (by rw [q]; decide) (by rw [q]; decide) (by rw [q]; decide) (by rw [q]; decide) (by rw [q]; decide) (by rw [q]; decide) q) E_CellType_CHOICE (rm2_t l s _ hw [] A_CellType_CHOICE _ A_JsonKind_NUMBER s.heap s.heap.size (Nat.le_refl _) rfl F_CellType_CHOICE_shortKind S_JsonKind_NUMBER (fun z => own_ne F_JsonKind_STRING_ordinal F_JsonKind_NUMBER_ordinal (by decide) (Value.ref.inj z))) (rm3_6 l s _ hw [] A_CellType_CHOICE A_CellType_NUMERIC A_CellType_INT A_CellType_DATE A_CellType_DATE_TIME A_CellType_REFERENCE A_CellType_POSITION_NUMBER s.heap s.heap.size (Nat.le_refl _) S_CellType_NUMERIC S_CellType_INT S_CellType_DATE S_CellType_DATE_TIME S_CellType_REFERENCE S_CellType_POSITION_NUMBER (own_ne F_CellType_CHOICE_ordinal F_CellType_NUMERIC_ordinal (by decide)) (own_ne F_CellType_CHOICE_ordinal F_CellType_INT_ordinal (by decide)) (own_ne F_CellType_CHOICE_ordinal F_CellType_DATE_ordinal (by decide)) (own_ne F_CellType_CHOICE_ordinal F_CellType_DATE_TIME_ordinal (by decide)) (own_ne F_CellType_CHOICE_ordinal F_CellType_REFERENCE_ordinal (by decide)) (own_ne F_CellType_CHOICE_ordinal F_CellType_POSITION_NUMBER_ordinal (by decide)) )
    · exact rm0 l s _ hw tables_1 i0 A_CellType_POSITION_NUMBER (1 : Int32) s.heap s.heap.size (Nat.le_refl _) (rm1_10 l s _ hw [] _ A_CellType_POSITION_NUMBER s.heap s.heap.size (Nat.le_refl _) S_CellType_POSITION_NUMBER (by rw [q]; decide) (by rw [q]; decide) (by rw [q]; decide) (by rw [q]; decide) (by rw [q]; decide) (by rw [q]; decide) (by rw [q]; decide) (by rw [q]; decide) (by rw [q]; decide) (by rw [q]; decide) q) E_CellType_POSITION_NUMBER (rm2_f l s _ hw [] A_CellType_POSITION_NUMBER _ A_JsonKind_NUMBER s.heap s.heap.size (Nat.le_refl _) rfl F_CellType_POSITION_NUMBER_shortKind S_JsonKind_NUMBER rfl) (rm3_5 l s _ hw [] A_CellType_POSITION_NUMBER A_CellType_NUMERIC A_CellType_INT A_CellType_DATE A_CellType_DATE_TIME A_CellType_REFERENCE A_CellType_POSITION_NUMBER s.heap s.heap.size (Nat.le_refl _) S_CellType_NUMERIC S_CellType_INT S_CellType_DATE S_CellType_DATE_TIME S_CellType_REFERENCE S_CellType_POSITION_NUMBER (own_ne F_CellType_POSITION_NUMBER_ordinal F_CellType_NUMERIC_ordinal (by decide)) (own_ne F_CellType_POSITION_NUMBER_ordinal F_CellType_INT_ordinal (by decide)) (own_ne F_CellType_POSITION_NUMBER_ordinal F_CellType_DATE_ordinal (by decide)) (own_ne F_CellType_POSITION_NUMBER_ordinal F_CellType_DATE_TIME_ordinal (by decide)) (own_ne F_CellType_POSITION_NUMBER_ordinal F_CellType_REFERENCE_ordinal (by decide)) rfl)
    · exact rm0 l s _ hw tables_1 i0 A_CellType_IMAGE (0 : Int32) s.heap s.heap.size (Nat.le_refl _) (rm1_11 l s _ hw [] _ A_CellType_IMAGE s.heap s.heap.size (Nat.le_refl _) S_CellType_IMAGE (by rw [q]; decide) (by rw [q]; decide) (by rw [q]; decide) (by rw [q]; decide) (by rw [q]; decide) (by rw [q]; decide) (by rw [q]; decide) (by rw [q]; decide) (by rw [q]; decide) (by rw [q]; decide) (by rw [q]; decide) q) E_CellType_IMAGE (rm2_t l s _ hw [] A_CellType_IMAGE _ A_JsonKind_NUMBER s.heap s.heap.size (Nat.le_refl _) rfl F_CellType_IMAGE_shortKind S_JsonKind_NUMBER nofun) (rm3_6 l s _ hw [] A_CellType_IMAGE A_CellType_NUMERIC A_CellType_INT A_CellType_DATE A_CellType_DATE_TIME A_CellType_REFERENCE A_CellType_POSITION_NUMBER s.heap s.heap.size (Nat.le_refl _) S_CellType_NUMERIC S_CellType_INT S_CellType_DATE S_CellType_DATE_TIME S_CellType_REFERENCE S_CellType_POSITION_NUMBER (own_ne F_CellType_IMAGE_ordinal F_CellType_NUMERIC_ordinal (by decide)) (own_ne F_CellType_IMAGE_ordinal F_CellType_INT_ordinal (by decide)) (own_ne F_CellType_IMAGE_ordinal F_CellType_DATE_ordinal (by decide)) (own_ne F_CellType_IMAGE_ordinal F_CellType_DATE_TIME_ordinal (by decide)) (own_ne F_CellType_IMAGE_ordinal F_CellType_REFERENCE_ordinal (by decide)) (own_ne F_CellType_IMAGE_ordinal F_CellType_POSITION_NUMBER_ordinal (by decide)) )
    · exact rm0 l s _ hw tables_1 i0 A_CellType_LIST (0 : Int32) s.heap s.heap.size (Nat.le_refl _) (rm1_12 l s _ hw [] _ A_CellType_LIST s.heap s.heap.size (Nat.le_refl _) S_CellType_LIST (by rw [q]; decide) (by rw [q]; decide) (by rw [q]; decide) (by rw [q]; decide) (by rw [q]; decide) (by rw [q]; decide) (by rw [q]; decide) (by rw [q]; decide) (by rw [q]; decide) (by rw [q]; decide) (by rw [q]; decide) (by rw [q]; decide) q) E_CellType_LIST (rm2_t l s _ hw [] A_CellType_LIST _ A_JsonKind_NUMBER s.heap s.heap.size (Nat.le_refl _) rfl F_CellType_LIST_shortKind S_JsonKind_NUMBER nofun) (rm3_6 l s _ hw [] A_CellType_LIST A_CellType_NUMERIC A_CellType_INT A_CellType_DATE A_CellType_DATE_TIME A_CellType_REFERENCE A_CellType_POSITION_NUMBER s.heap s.heap.size (Nat.le_refl _) S_CellType_NUMERIC S_CellType_INT S_CellType_DATE S_CellType_DATE_TIME S_CellType_REFERENCE S_CellType_POSITION_NUMBER (own_ne F_CellType_LIST_ordinal F_CellType_NUMERIC_ordinal (by decide)) (own_ne F_CellType_LIST_ordinal F_CellType_INT_ordinal (by decide)) (own_ne F_CellType_LIST_ordinal F_CellType_DATE_ordinal (by decide)) (own_ne F_CellType_LIST_ordinal F_CellType_DATE_TIME_ordinal (by decide)) (own_ne F_CellType_LIST_ordinal F_CellType_REFERENCE_ordinal (by decide)) (own_ne F_CellType_LIST_ordinal F_CellType_POSITION_NUMBER_ordinal (by decide)) )
    · exact rm0 l s _ hw tables_1 i0 A_CellType_JSON (0 : Int32) s.heap s.heap.size (Nat.le_refl _) (rm1_13 l s _ hw [] _ A_CellType_JSON s.heap s.heap.size (Nat.le_refl _) S_CellType_JSON (by rw [q]; decide) (by rw [q]; decide) (by rw [q]; decide) (by rw [q]; decide) (by rw [q]; decide) (by rw [q]; decide) (by rw [q]; decide) (by rw [q]; decide) (by rw [q]; decide) (by rw [q]; decide) (by rw [q]; decide) (by rw [q]; decide) (by rw [q]; decide) q) E_CellType_JSON (rm2_t l s _ hw [] A_CellType_JSON _ A_JsonKind_NUMBER s.heap s.heap.size (Nat.le_refl _) rfl F_CellType_JSON_shortKind S_JsonKind_NUMBER nofun) (rm3_6 l s _ hw [] A_CellType_JSON A_CellType_NUMERIC A_CellType_INT A_CellType_DATE A_CellType_DATE_TIME A_CellType_REFERENCE A_CellType_POSITION_NUMBER s.heap s.heap.size (Nat.le_refl _) S_CellType_NUMERIC S_CellType_INT S_CellType_DATE S_CellType_DATE_TIME S_CellType_REFERENCE S_CellType_POSITION_NUMBER (own_ne F_CellType_JSON_ordinal F_CellType_NUMERIC_ordinal (by decide)) (own_ne F_CellType_JSON_ordinal F_CellType_INT_ordinal (by decide)) (own_ne F_CellType_JSON_ordinal F_CellType_DATE_ordinal (by decide)) (own_ne F_CellType_JSON_ordinal F_CellType_DATE_TIME_ordinal (by decide)) (own_ne F_CellType_JSON_ordinal F_CellType_REFERENCE_ordinal (by decide)) (own_ne F_CellType_JSON_ordinal F_CellType_POSITION_NUMBER_ordinal (by decide)) )
    · exact rm0 l s _ hw tables_1 i0 A_CellType_ERROR (0 : Int32) s.heap s.heap.size (Nat.le_refl _) (rm1_14 l s _ hw [] _ A_CellType_ERROR s.heap s.heap.size (Nat.le_refl _) S_CellType_ERROR (by rw [q]; decide) (by rw [q]; decide) (by rw [q]; decide) (by rw [q]; decide) (by rw [q]; decide) (by rw [q]; decide) (by rw [q]; decide) (by rw [q]; decide) (by rw [q]; decide) (by rw [q]; decide) (by rw [q]; decide) (by rw [q]; decide) (by rw [q]; decide) (by rw [q]; decide)) E_CellType_ERROR (rm2_t l s _ hw [] A_CellType_ERROR _ A_JsonKind_NUMBER s.heap s.heap.size (Nat.le_refl _) rfl F_CellType_ERROR_shortKind S_JsonKind_NUMBER nofun) (rm3_6 l s _ hw [] A_CellType_ERROR A_CellType_NUMERIC A_CellType_INT A_CellType_DATE A_CellType_DATE_TIME A_CellType_REFERENCE A_CellType_POSITION_NUMBER s.heap s.heap.size (Nat.le_refl _) S_CellType_NUMERIC S_CellType_INT S_CellType_DATE S_CellType_DATE_TIME S_CellType_REFERENCE S_CellType_POSITION_NUMBER (own_ne F_CellType_ERROR_ordinal F_CellType_NUMERIC_ordinal (by decide)) (own_ne F_CellType_ERROR_ordinal F_CellType_INT_ordinal (by decide)) (own_ne F_CellType_ERROR_ordinal F_CellType_DATE_ordinal (by decide)) (own_ne F_CellType_ERROR_ordinal F_CellType_DATE_TIME_ordinal (by decide)) (own_ne F_CellType_ERROR_ordinal F_CellType_REFERENCE_ordinal (by decide)) (own_ne F_CellType_ERROR_ordinal F_CellType_POSITION_NUMBER_ordinal (by decide)) )
  obtain ⟨n, o, h1, h2, h3, _, L, rfl, ⟨rfl, N, -⟩, hq⟩ := hmain p e ha hc hk s m _ below hf ((Spec.applies_iff_loose hf).mp happ).1 ⟨rfl, State.Warmed39.refl s, rfl⟩ trivial
  refine ⟨n, _, h1, h2, h3, hpost _ _ _ _ _ _ ⟨Cond.after_iff.mpr rfl, Cond.after_iff.mpr (eq_i res_at (Term.int_eval (1)) rfl), trivial⟩ ⟨hq.1, hq.2.1, (hq.2.2.sift fun y hy => Or.inr (N y hy)).mono (by decide) (by decide)⟩⟩
theorem main_1_1 : Claimed_1_1 := comes_1 fun _ _ _ _ _ _ h hF => ⟨h.1, hF⟩
theorem main_1_2 : Claimed_1_2 := comes_1 fun _ _ _ _ _ _ h hF => ⟨h.2.1, hF⟩
end Jvm.Pilot.@@N@@
namespace Jvm.Pilot.@@N@@
open Jvm Jvm.ClassFile Sem Op Lib Jvm.Free Jvm.Stand Jvm.Pilot.@@N@@.Jvm.D
/-! MADE BY PROGRAM (witnessworld.py) out of the Statement's table words and the real class files: 13 classes; the members and pool entries that the words name. The judged class is class 1, her method 3. -/
namespace start1
open Jvm.ClassFile
def u (s : String) : CpInfo := .utf8 (stringToUtf16 s)
/-- a pool by its gaps: so many unusable entries, then the entry; so many at the end -/
def gap : Nat → List CpInfo → List CpInfo
  | 0, r => r
  | n + 1, r => .unusable :: gap n r
def poolList (es : List (Nat × CpInfo)) (last : Nat) : List CpInfo := es.foldr (fun e r => gap e.1 (e.2 :: r)) (gap last [])
def pool (es : List (Nat × CpInfo)) (last : Nat) : Array CpInfo := ⟨poolList es last⟩
def fileOf (pool : Array CpInfo) (this : Nat) (attrs : Array Attribute := #[]) (ms : Array MethodInfo := #[]) (fl : Nat := 33) (sup : Nat := 0) (ifs : Array Nat := #[]) (fds : Array FieldInfo := #[]) : ClassFile where
  minorVersion := 0
  majorVersion := 65
  constantPool := pool
  accessFlags := fl
  thisClass := this
  superClass := sup
  interfaces := ifs
  fields := fds
  methods := ms
  attributes := attrs
def plain (name : String) (sup : Option ClassId) : Class where
  name := name
  kind := .ordinary
  loader := none
  accessFlags := 33
  super := sup
  interfaces := #[]
  cf := none
  fields := #[]
  methods := #[]
  instanceTypes := #[]
  staticTypes := #[]
  resolved := #[]
  callSites := []
  init := .initialized
  statics := none
  mirror := none

def pool0 : Array CpInfo := pool [(5, u "<init>"), (0, u "()V"), (1, .class_ 10), (1, u "java/lang/Object")] 113

def k0m0 : Method := { name := "<init>", desc := "()V", sig := { parameters := [], returnType := none }, accessFlags := 1, code := none }
/-- java/lang/Object -/
def k0 : Class := { plain "java/lang/Object" none with
  accessFlags := 33
  interfaces := #[]
  cf := some (fileOf pool0 8 #[] #[{ accessFlags := 1, nameIndex := 5, descriptorIndex := 6, attributes := #[] }] 33 0 #[] #[])
  fields := #[]
  methods := #[k0m0]
  instanceTypes := #[]
  staticTypes := #[]
  resolved := Array.replicate 124 none
  statics := none }

def pool1 : Array CpInfo := pool [(2, .class_ 4), (1, u "java/lang/Object"), (0, u "<init>"), (0, u "()V"), (0, .fieldref 8 9), (0, .class_ 10), (0, .nameAndType 11 12), (0, u "com/example/tabulon/tabulon/document/CellType"), (0, u "NUMERIC"), (0, u "Lcom/example/tabulon/tabulon/document/CellType;"), (0, .fieldref 8 14), (0, .nameAndType 15 12), (0, u "TEXT"), (0, .fieldref 8 17), (0, .nameAndType 18 12), (0, u "BOOL"), (0, .fieldref 8 20), (0, .nameAndType 21 12), (0, u "NULL"), (0, .fieldref 8 23), (0, .nameAndType 24 12), (0, u "INT"), (0, .fieldref 8 26), (0, .nameAndType 27 12), (0, u "DATE"), (0, .fieldref 8 29), (0, .nameAndType 30 12), (0, u "DATE_TIME"), (0, .fieldref 8 32), (0, .nameAndType 33 12), (0, u "REFERENCE"), (0, .fieldref 8 35), (0, .nameAndType 36 12), (0, u "REFERENCE_LIST"), (0, .fieldref 8 38), (0, .nameAndType 39 12), (0, u "CHOICE"), (0, .fieldref 8 41), (0, .nameAndType 42 12), (0, u "POSITION_NUMBER"), (0, .fieldref 8 44), (0, .nameAndType 45 12), (0, u "IMAGE"), (0, .fieldref 8 47), (0, .nameAndType 48 12), (0, u "LIST"), (0, .fieldref 8 50), (0, .nameAndType 51 12), (0, u "JSON"), (0, .fieldref 8 53), (0, .nameAndType 54 12), (0, u "ERROR"), (0, .integer 2147483647), (0, .methodref 57 58), (0, .class_ 59), (0, .nameAndType 60 61), (0, u "com/example/tabulon/tabulon/document/CellTypeHoldsNumberPinLaw"), (0, u "pick"), (0, u "(I)Lcom/example/tabulon/tabulon/document/CellType;"), (0, .methodref 8 63), (0, .nameAndType 64 65), (0, u "holdsNumber"), (0, u "()Z"), (0, .methodref 57 67), (0, .nameAndType 68 69), (0, u "documentedNumeric"), (0, u "(Lcom/example/tabulon/tabulon/document/CellType;)Z"), (3, u "law"), (0, u "(I)Z")] 2

def k1m0 : Method := { name := "<init>", desc := "()V", sig := { parameters := [], returnType := none }, accessFlags := 1, code := none }
def k1c1 : Code := { maxStack := 2, maxLocals := 1, code := method_2_code, exceptionTable := #[], attributes := #[] }
def k1m1 : Method := { name := "pick", desc := "(I)Lcom/example/tabulon/tabulon/document/CellType;", sig := { parameters := [.int], returnType := some (.object "com/example/tabulon/tabulon/document/CellType") }, accessFlags := 10, code := some k1c1 }
def k1c2 : Code := { maxStack := 2, maxLocals := 1, code := method_3_code, exceptionTable := #[], attributes := #[] }
def k1m2 : Method := { name := "documentedNumeric", desc := "(Lcom/example/tabulon/tabulon/document/CellType;)Z", sig := { parameters := [(.object "com/example/tabulon/tabulon/document/CellType")], returnType := some .boolean }, accessFlags := 10, code := some k1c2 }
def k1c3 : Code := { maxStack := 2, maxLocals := 3, code := code, exceptionTable := #[], attributes := #[] }
def k1m3 : Method := { name := "law", desc := "(I)Z", sig := { parameters := [.int], returnType := some .boolean }, accessFlags := 9, code := some k1c3 }
/-- com/example/tabulon/tabulon/document/CellTypeHoldsNumberPinLaw -/
def k1 : Class := { plain "com/example/tabulon/tabulon/document/CellTypeHoldsNumberPinLaw" (some 0) with
  accessFlags := 49
  interfaces := #[]
  cf := some (fileOf pool1 57 #[] #[{ accessFlags := 1, nameIndex := 5, descriptorIndex := 6, attributes := #[] }, { accessFlags := 10, nameIndex := 60, descriptorIndex := 61, attributes := #[] }, { accessFlags := 10, nameIndex := 68, descriptorIndex := 69, attributes := #[] }, { accessFlags := 9, nameIndex := 73, descriptorIndex := 74, attributes := #[] }] 49 2 #[] #[])
  fields := #[]
  methods := #[k1m0, k1m1, k1m2, k1m3]
  instanceTypes := #[]
  staticTypes := #[]
  resolved := Array.replicate 77 none
  statics := none }

def pool2 : Array CpInfo := pool [(1, .class_ 2), (0, u "java/lang/constant/Constable"), (0, .class_ 4), (0, u "java/lang/Object")] 6

/-- java/lang/constant/Constable -/
def k2 : Class := { plain "java/lang/constant/Constable" (some 0) with
  accessFlags := 1537
  interfaces := #[]
  cf := some (fileOf pool2 1 #[] #[] 1537 3 #[] #[])
  fields := #[]
  methods := #[]
  instanceTypes := #[]
  staticTypes := #[]
  resolved := Array.replicate 11 none
  statics := none }

def pool3 : Array CpInfo := pool [(1, .class_ 2), (0, u "java/lang/Comparable"), (0, .class_ 4), (0, u "java/lang/Object")] 7

/-- java/lang/Comparable -/
def k3 : Class := { plain "java/lang/Comparable" (some 0) with
  accessFlags := 1537
  interfaces := #[]
  cf := some (fileOf pool3 1 #[] #[] 1537 3 #[] #[])
  fields := #[]
  methods := #[]
  instanceTypes := #[]
  staticTypes := #[]
  resolved := Array.replicate 12 none
  statics := none }

def pool4 : Array CpInfo := pool [(1, .class_ 2), (0, u "java/io/Serializable"), (0, .class_ 4), (0, u "java/lang/Object")] 2

/-- java/io/Serializable -/
def k4 : Class := { plain "java/io/Serializable" (some 0) with
  accessFlags := 1537
  interfaces := #[]
  cf := some (fileOf pool4 1 #[] #[] 1537 3 #[] #[])
  fields := #[]
  methods := #[]
  instanceTypes := #[]
  staticTypes := #[]
  resolved := Array.replicate 7 none
  statics := none }

def pool5 : Array CpInfo := pool [(2, .class_ 4), (1, u "java/lang/Enum"), (0, u "name"), (0, u "Ljava/lang/String;"), (2, u "ordinal"), (0, u "I"), (1, .class_ 14), (1, u "java/lang/Object"), (4, u "hash"), (86, .class_ 108), (1, u "java/lang/Enum$EnumDesc"), (2, .class_ 112), (0, u "java/lang/constant/Constable"), (0, .class_ 114), (0, u "java/lang/Comparable"), (0, .class_ 116), (0, u "java/io/Serializable")] 87

/-- java/lang/Enum -/
def k5 : Class := { plain "java/lang/Enum" (some 0) with
  accessFlags := 1057
  interfaces := #[2, 3, 4]
  cf := some (fileOf pool5 2 #[.nestMembers #[106]] #[] 1057 12 #[111, 113, 115] #[{ accessFlags := 18, nameIndex := 5, descriptorIndex := 6, attributes := #[] }, { accessFlags := 18, nameIndex := 9, descriptorIndex := 10, attributes := #[] }, { accessFlags := 2, nameIndex := 19, descriptorIndex := 10, attributes := #[] }])
  fields := #[{ name := "name", type := (.object "java/lang/String"), accessFlags := 18, slot := 0, constantValue := 0 }, { name := "ordinal", type := .int, accessFlags := 18, slot := 1, constantValue := 0 }, { name := "hash", type := .int, accessFlags := 2, slot := 2, constantValue := 0 }]
  methods := #[]
  instanceTypes := #[(.object "java/lang/String"), .int, .int]
  staticTypes := #[]
  resolved := Array.replicate 204 none
  statics := none }

def pool6 : Array CpInfo := pool [(1, .class_ 2), (0, u "com/example/tabulon/tabulon/document/CellType"), (2, u "NUMERIC"), (0, u "Lcom/example/tabulon/tabulon/document/CellType;"), (2, u "TEXT"), (2, u "BOOL"), (2, u "NULL"), (2, u "INT"), (2, u "DATE"), (2, u "DATE_TIME"), (2, u "REFERENCE"), (2, u "REFERENCE_LIST"), (2, u "CHOICE"), (2, u "POSITION_NUMBER"), (2, u "IMAGE"), (2, u "LIST"), (2, u "JSON"), (2, u "ERROR"), (2, u "$VALUES"), (0, u "[Lcom/example/tabulon/tabulon/document/CellType;"), (6, .class_ 61), (1, u "java/lang/Enum"), (8, u "typeName"), (0, u "Ljava/lang/String;"), (2, u "code"), (0, .fieldref 1 76), (0, .nameAndType 77 78), (0, u "shortKind"), (0, u "Lcom/example/tabulon/tabulon/json/JsonKind;"), (2, u "starred"), (0, u "Z"), (20, .fieldref 104 105), (0, .class_ 106), (0, .nameAndType 107 78), (0, u "com/example/tabulon/tabulon/json/JsonKind"), (0, u "NUMBER"), (5, u "BY_TYPE_NAME"), (0, u "Ljava/util/Map;"), (8, u "BY_CODE"), (2, u "STARRED_BY_KIND"), (107, u "holdsNumber"), (0, u "()Z")] 25

def k6c0 : Code := { maxStack := 2, maxLocals := 1, code := prog_18_method_8_code, exceptionTable := #[], attributes := #[] }
def k6m0 : Method := { name := "holdsNumber", desc := "()Z", sig := { parameters := [], returnType := some .boolean }, accessFlags := 1, code := some k6c0 }
/-- com/example/tabulon/tabulon/document/CellType -/
def k6 : Class := { plain "com/example/tabulon/tabulon/document/CellType" (some 5) with
  accessFlags := 16433
  interfaces := #[]
  cf := some (fileOf pool6 1 #[] #[{ accessFlags := 1, nameIndex := 234, descriptorIndex := 235, attributes := #[] }] 16433 59 #[] #[{ accessFlags := 16409, nameIndex := 5, descriptorIndex := 6, attributes := #[] }, { accessFlags := 16409, nameIndex := 9, descriptorIndex := 6, attributes := #[] }, { accessFlags := 16409, nameIndex := 12, descriptorIndex := 6, attributes := #[] }, { accessFlags := 16409, nameIndex := 15, descriptorIndex := 6, attributes := #[] }, { accessFlags := 16409, nameIndex := 18, descriptorIndex := 6, attributes := #[] }, { accessFlags := 16409, nameIndex := 21, descriptorIndex := 6, attributes := #[] }, { accessFlags := 16409, nameIndex := 24, descriptorIndex := 6, attributes := #[] }, { accessFlags := 16409, nameIndex := 27, descriptorIndex := 6, attributes := #[] }, { accessFlags := 16409, nameIndex := 30, descriptorIndex := 6, attributes := #[] }, { accessFlags := 16409, nameIndex := 33, descriptorIndex := 6, attributes := #[] }, { accessFlags := 16409, nameIndex := 36, descriptorIndex := 6, attributes := #[] }, { accessFlags := 16409, nameIndex := 39, descriptorIndex := 6, attributes := #[] }, { accessFlags := 16409, nameIndex := 42, descriptorIndex := 6, attributes := #[] }, { accessFlags := 16409, nameIndex := 45, descriptorIndex := 6, attributes := #[] }, { accessFlags := 16409, nameIndex := 48, descriptorIndex := 6, attributes := #[] }, { accessFlags := 26, nameIndex := 113, descriptorIndex := 114, attributes := #[] }, { accessFlags := 26, nameIndex := 123, descriptorIndex := 114, attributes := #[] }, { accessFlags := 26, nameIndex := 126, descriptorIndex := 114, attributes := #[] }, { accessFlags := 18, nameIndex := 70, descriptorIndex := 71, attributes := #[] }, { accessFlags := 18, nameIndex := 74, descriptorIndex := 71, attributes := #[] }, { accessFlags := 18, nameIndex := 77, descriptorIndex := 78, attributes := #[] }, { accessFlags := 18, nameIndex := 81, descriptorIndex := 82, attributes := #[] }, { accessFlags := 4122, nameIndex := 51, descriptorIndex := 52, attributes := #[] }])
  fields := #[{ name := "NUMERIC", type := (.object "com/example/tabulon/tabulon/document/CellType"), accessFlags := 16409, slot := 0, constantValue := 0 }, { name := "TEXT", type := (.object "com/example/tabulon/tabulon/document/CellType"), accessFlags := 16409, slot := 1, constantValue := 0 }, { name := "BOOL", type := (.object "com/example/tabulon/tabulon/document/CellType"), accessFlags := 16409, slot := 2, constantValue := 0 }, { name := "NULL", type := (.object "com/example/tabulon/tabulon/document/CellType"), accessFlags := 16409, slot := 3, constantValue := 0 }, { name := "INT", type := (.object "com/example/tabulon/tabulon/document/CellType"), accessFlags := 16409, slot := 4, constantValue := 0 }, { name := "DATE", type := (.object "com/example/tabulon/tabulon/document/CellType"), accessFlags := 16409, slot := 5, constantValue := 0 }, { name := "DATE_TIME", type := (.object "com/example/tabulon/tabulon/document/CellType"), accessFlags := 16409, slot := 6, constantValue := 0 }, { name := "REFERENCE", type := (.object "com/example/tabulon/tabulon/document/CellType"), accessFlags := 16409, slot := 7, constantValue := 0 }, { name := "REFERENCE_LIST", type := (.object "com/example/tabulon/tabulon/document/CellType"), accessFlags := 16409, slot := 8, constantValue := 0 }, { name := "CHOICE", type := (.object "com/example/tabulon/tabulon/document/CellType"), accessFlags := 16409, slot := 9, constantValue := 0 }, { name := "POSITION_NUMBER", type := (.object "com/example/tabulon/tabulon/document/CellType"), accessFlags := 16409, slot := 10, constantValue := 0 }, { name := "IMAGE", type := (.object "com/example/tabulon/tabulon/document/CellType"), accessFlags := 16409, slot := 11, constantValue := 0 }, { name := "LIST", type := (.object "com/example/tabulon/tabulon/document/CellType"), accessFlags := 16409, slot := 12, constantValue := 0 }, { name := "JSON", type := (.object "com/example/tabulon/tabulon/document/CellType"), accessFlags := 16409, slot := 13, constantValue := 0 }, { name := "ERROR", type := (.object "com/example/tabulon/tabulon/document/CellType"), accessFlags := 16409, slot := 14, constantValue := 0 }, { name := "BY_TYPE_NAME", type := (.object "java/util/Map"), accessFlags := 26, slot := 15, constantValue := 0 }, { name := "BY_CODE", type := (.object "java/util/Map"), accessFlags := 26, slot := 16, constantValue := 0 }, { name := "STARRED_BY_KIND", type := (.object "java/util/Map"), accessFlags := 26, slot := 17, constantValue := 0 }, { name := "typeName", type := (.object "java/lang/String"), accessFlags := 18, slot := 3, constantValue := 0 }, { name := "code", type := (.object "java/lang/String"), accessFlags := 18, slot := 4, constantValue := 0 }, { name := "shortKind", type := (.object "com/example/tabulon/tabulon/json/JsonKind"), accessFlags := 18, slot := 5, constantValue := 0 }, { name := "starred", type := .boolean, accessFlags := 18, slot := 6, constantValue := 0 }, { name := "$VALUES", type := (.array (.object "com/example/tabulon/tabulon/document/CellType")), accessFlags := 4122, slot := 18, constantValue := 0 }]
  methods := #[k6m0]
  instanceTypes := #[(.object "java/lang/String"), .int, .int, (.object "java/lang/String"), (.object "java/lang/String"), (.object "com/example/tabulon/tabulon/json/JsonKind"), .boolean]
  staticTypes := #[(.object "com/example/tabulon/tabulon/document/CellType"), (.object "com/example/tabulon/tabulon/document/CellType"), (.object "com/example/tabulon/tabulon/document/CellType"), (.object "com/example/tabulon/tabulon/document/CellType"), (.object "com/example/tabulon/tabulon/document/CellType"), (.object "com/example/tabulon/tabulon/document/CellType"), (.object "com/example/tabulon/tabulon/document/CellType"), (.object "com/example/tabulon/tabulon/document/CellType"), (.object "com/example/tabulon/tabulon/document/CellType"), (.object "com/example/tabulon/tabulon/document/CellType"), (.object "com/example/tabulon/tabulon/document/CellType"), (.object "com/example/tabulon/tabulon/document/CellType"), (.object "com/example/tabulon/tabulon/document/CellType"), (.object "com/example/tabulon/tabulon/document/CellType"), (.object "com/example/tabulon/tabulon/document/CellType"), (.object "java/util/Map"), (.object "java/util/Map"), (.object "java/util/Map"), (.array (.object "com/example/tabulon/tabulon/document/CellType"))]
  resolved := Array.replicate 261 none
  statics := some 0 }

def pool7 : Array CpInfo := pool [(1, .class_ 2), (0, u "com/example/tabulon/tabulon/json/JsonKind"), (2, u "OBJECT"), (0, u "Lcom/example/tabulon/tabulon/json/JsonKind;"), (2, u "ARRAY"), (2, u "STRING"), (2, u "NUMBER"), (2, u "BOOLEAN"), (2, u "NULL"), (2, u "$VALUES"), (0, u "[Lcom/example/tabulon/tabulon/json/JsonKind;"), (6, .class_ 34), (1, u "java/lang/Enum"), (8, u "description"), (0, u "Ljava/lang/String;")] 38

/-- com/example/tabulon/tabulon/json/JsonKind -/
def k7 : Class := { plain "com/example/tabulon/tabulon/json/JsonKind" (some 5) with
  accessFlags := 16433
  interfaces := #[]
  cf := some (fileOf pool7 1 #[] #[] 16433 32 #[] #[{ accessFlags := 16409, nameIndex := 5, descriptorIndex := 6, attributes := #[] }, { accessFlags := 16409, nameIndex := 9, descriptorIndex := 6, attributes := #[] }, { accessFlags := 16409, nameIndex := 12, descriptorIndex := 6, attributes := #[] }, { accessFlags := 16409, nameIndex := 15, descriptorIndex := 6, attributes := #[] }, { accessFlags := 16409, nameIndex := 18, descriptorIndex := 6, attributes := #[] }, { accessFlags := 16409, nameIndex := 21, descriptorIndex := 6, attributes := #[] }, { accessFlags := 18, nameIndex := 43, descriptorIndex := 44, attributes := #[] }, { accessFlags := 4122, nameIndex := 24, descriptorIndex := 25, attributes := #[] }])
  fields := #[{ name := "OBJECT", type := (.object "com/example/tabulon/tabulon/json/JsonKind"), accessFlags := 16409, slot := 0, constantValue := 0 }, { name := "ARRAY", type := (.object "com/example/tabulon/tabulon/json/JsonKind"), accessFlags := 16409, slot := 1, constantValue := 0 }, { name := "STRING", type := (.object "com/example/tabulon/tabulon/json/JsonKind"), accessFlags := 16409, slot := 2, constantValue := 0 }, { name := "NUMBER", type := (.object "com/example/tabulon/tabulon/json/JsonKind"), accessFlags := 16409, slot := 3, constantValue := 0 }, { name := "BOOLEAN", type := (.object "com/example/tabulon/tabulon/json/JsonKind"), accessFlags := 16409, slot := 4, constantValue := 0 }, { name := "NULL", type := (.object "com/example/tabulon/tabulon/json/JsonKind"), accessFlags := 16409, slot := 5, constantValue := 0 }, { name := "description", type := (.object "java/lang/String"), accessFlags := 18, slot := 3, constantValue := 0 }, { name := "$VALUES", type := (.array (.object "com/example/tabulon/tabulon/json/JsonKind")), accessFlags := 4122, slot := 6, constantValue := 0 }]
  methods := #[]
  instanceTypes := #[(.object "java/lang/String"), .int, .int, (.object "java/lang/String")]
  staticTypes := #[(.object "com/example/tabulon/tabulon/json/JsonKind"), (.object "com/example/tabulon/tabulon/json/JsonKind"), (.object "com/example/tabulon/tabulon/json/JsonKind"), (.object "com/example/tabulon/tabulon/json/JsonKind"), (.object "com/example/tabulon/tabulon/json/JsonKind"), (.object "com/example/tabulon/tabulon/json/JsonKind"), (.array (.object "com/example/tabulon/tabulon/json/JsonKind"))]
  resolved := Array.replicate 83 none
  statics := some 1 }

def pool8 : Array CpInfo := pool [(1, u "java/lang/Cloneable"), (0, .class_ 1), (0, u "java/lang/Object"), (0, .class_ 3)] 3

/-- java/lang/Cloneable -/
def k8 : Class := { plain "java/lang/Cloneable" (some 0) with
  accessFlags := 1537
  interfaces := #[]
  cf := some (fileOf pool8 2 #[] #[] 1537 4 #[] #[])
  fields := #[]
  methods := #[]
  instanceTypes := #[]
  staticTypes := #[]
  resolved := Array.replicate 8 none
  statics := none }

/-- the primitive byte -/
def k9 : Class := { plain "byte" none with kind := .primitive 'B', accessFlags := 0x411 }
/-- [B -/
def k10 : Class := { plain "[B" (some 0) with kind := .array 9 .byte, interfaces := #[8, 4], accessFlags := 1041 }

/-- the primitive int -/
def k11 : Class := { plain "int" none with kind := .primitive 'I', accessFlags := 0x411 }
/-- [I -/
def k12 : Class := { plain "[I" (some 0) with kind := .array 11 .int, interfaces := #[8, 4], accessFlags := 1041 }

def heap : Heap := #[{ cls := 6, slots := #[.ref 6, .ref 7, .ref 8, .ref 9, .ref 10, .ref 11, .ref 12, .ref 13, .ref 14, .ref 15, .ref 16, .ref 17, .ref 18, .ref 19, .ref 20, .null, .null, .null, .null], vm := .statics 6 },
  { cls := 7, slots := #[.null, .null, .ref 2, .ref 3, .ref 4, .ref 5, .null], vm := .statics 7 },
  { cls := 7, slots := #[.null, .int 2, .int 0, .null], vm := .none },
  { cls := 7, slots := #[.null, .int 3, .int 0, .null], vm := .none },
  { cls := 7, slots := #[.null, .int 4, .int 0, .null], vm := .none },
  { cls := 7, slots := #[.null, .int 5, .int 0, .null], vm := .none },
  { cls := 6, slots := #[.null, .int 0, .int 0, .null, .null, .ref 3, .int 0], vm := .none },
  { cls := 6, slots := #[.null, .int 1, .int 0, .null, .null, .ref 2, .int 0], vm := .none },
  { cls := 6, slots := #[.null, .int 2, .int 0, .null, .null, .ref 4, .int 0], vm := .none },
  { cls := 6, slots := #[.null, .int 3, .int 0, .null, .null, .ref 5, .int 0], vm := .none },
  { cls := 6, slots := #[.null, .int 4, .int 0, .null, .null, .ref 3, .int 0], vm := .none },
  { cls := 6, slots := #[.null, .int 5, .int 0, .null, .null, .ref 3, .int 0], vm := .none },
  { cls := 6, slots := #[.null, .int 6, .int 0, .null, .null, .ref 3, .int 0], vm := .none },
  { cls := 6, slots := #[.null, .int 7, .int 0, .null, .null, .ref 3, .int 0], vm := .none },
  { cls := 6, slots := #[.null, .int 8, .int 0, .null, .null, .null, .int 0], vm := .none },
  { cls := 6, slots := #[.null, .int 9, .int 0, .null, .null, .ref 2, .int 0], vm := .none },
  { cls := 6, slots := #[.null, .int 10, .int 0, .null, .null, .ref 3, .int 0], vm := .none },
  { cls := 6, slots := #[.null, .int 11, .int 0, .null, .null, .null, .int 0], vm := .none },
  { cls := 6, slots := #[.null, .int 12, .int 0, .null, .null, .null, .int 0], vm := .none },
  { cls := 6, slots := #[.null, .int 13, .int 0, .null, .null, .null, .int 0], vm := .none },
  { cls := 6, slots := #[.null, .int 14, .int 0, .null, .null, .null, .int 0], vm := .none }]
def classes : Array Class := #[k0, k1, k2, k3, k4, k5, k6, k7, k8, k9, k10, k11, k12]
def interned : List (Array UInt16 × Addr) := []
def slotsUsed : Nat := 147
def theMethod : MethodId := ⟨1, 3⟩
def args0 : Array Value := #[.int 3]
def aboutOver (below : List Frame) : State where
  vm := { classes := classes, interned := interned.toArray }
  heap := heap
  slotsUsed := slotsUsed
  threads := #[{ frames := .invoking theMethod args0 :: below }]
def below0 : List Frame := [.native { method := ⟨0, 0⟩, args := #[] }]
def about1 : State := aboutOver below0
def p0 : Program := .bare "" "" ""
def e0 : Env := launch0.env 0 0 0
theorem w_frames : about1.frames = Frame.invoking theMethod args0 :: below0 := rfl
set_option maxRecDepth 65536 in
theorem w_args : argsFit about1.vm theMethod args0 = true := by decide +kernel
set_option maxRecDepth 65536 in
theorem w_heap : heapFits about1 = true := by decide +kernel
set_option maxRecDepth 65536 in
theorem w_runnable : about1.curStatus? = some .runnable := by decide +kernel
set_option maxRecDepth 65536 in
theorem w_alone : about1.alone = true := by decide +kernel
set_option maxRecDepth 65536 in
theorem w_named : about1.methodNamed? x = some theMethod := by decide +kernel
set_option maxRecDepth 65536 in
theorem w_hears : about1.hears theMethod below0 = true := by decide +kernel
set_option maxRecDepth 65536 in
theorem w_ripe : about1.ripe theMethod args0 below0 = true := by decide +kernel
theorem w_running : about1.status = .running := rfl
set_option maxRecDepth 65536 in
theorem w_room : about1.hasRoom e0.platform room_1 = true :=
  launch0.hasRoom_least _ room_1 (by decide +kernel) (by decide +kernel) (by decide +kernel) (by decide +kernel) (by decide +kernel) (by decide +kernel)
theorem allAtoms_all (ts : List Jvm.Cond) (a : Array Jvm.Value) (st : Jvm.State) : (allAtoms ts).before a st = ts.all (fun c => c.before a st) := by
  induction ts with
  | nil => rfl
  | cons c t ih =>
    show (Jvm.Cond.and c (allAtoms t)).before a st = _
    rw [Jvm.Cond.before_and, ih, List.all_cons]
def words1 : List Jvm.Cond := Jvm.Cond.code x code maxLocals ret :: tables_1
/-- a 'code' word, met by the world's own term for the bytes: nothing is compared byte by byte -/
theorem code_word {y : MethodName} {bytes : ByteArray} {mx : Nat} {rt : Option FieldType} {a : Array Value} {s : State} {m : MethodId} {meth : Method} {c : Code} (h1 : s.methodNamed? y = some m) (h2 : s.vm.method? m = some meth) (h3 : meth.code = some c) (h4 : c.code = bytes)
    (h5 : (c.maxLocals == mx && c.exceptionTable.isEmpty && decide (c.maxStack ≤ mostOperands) && decide (meth.sig.returnType = rt) && !meth.locks && decide (parseMethodDescriptor y.desc = some meth.sig)) = true) : (Jvm.Cond.code y bytes mx rt).before a s = true := by
  simp only [Bool.and_eq_true, beq_iff_eq, Bool.not_eq_true', decide_eq_true_eq] at h5
  obtain ⟨⟨⟨⟨⟨g1, g2⟩, g3⟩, g4⟩, g5⟩, g6⟩ := h5
  simp [Cond.before, Cond.holds, Cond.value, h1, h2, h3, h4, g1, g2, g3, g4, g5, g6]
def isCode : Jvm.Cond → Bool
  | .code _ _ _ _ => true
  | _ => false
theorem all_split {L : List Jvm.Cond} {P : Jvm.Cond → Bool} (h1 : L.all (fun c => isCode c || P c) = true) (h2 : ∀ c ∈ L.filter isCode, P c = true) : L.all P = true := by
  refine List.all_eq_true.mpr fun c hc => ?_
  have h := List.all_eq_true.mp h1 c hc
  rcases Bool.eq_false_or_eq_true (isCode c) with hi | hi
  · exact h2 c (List.mem_filter.mpr ⟨hc, hi⟩)
  · simpa [hi] using h
set_option maxRecDepth 65536 in
theorem w_c0 : (Jvm.Cond.code x code maxLocals ret).before args0 about1 = true := code_word (m := ⟨1, 3⟩) (meth := k1m3) (c := k1c3) (by decide +kernel) rfl rfl rfl (by decide +kernel)
set_option maxRecDepth 65536 in
theorem w_c1 : (Jvm.Cond.code ({ cls := "com/example/tabulon/tabulon/document/CellTypeHoldsNumberPinLaw", name := "pick", desc := "(I)Lcom/example/tabulon/tabulon/document/CellType;" } : Jvm.MethodName) method_2_code (1 : Nat) (Option.some (Jvm.ClassFile.FieldType.object "com/example/tabulon/tabulon/document/CellType"))).before args0 about1 = true := code_word (m := ⟨1, 1⟩) (meth := k1m1) (c := k1c1) (by decide +kernel) rfl rfl rfl (by decide +kernel)
set_option maxRecDepth 65536 in
theorem w_c2 : (Jvm.Cond.code ({ cls := "com/example/tabulon/tabulon/document/CellType", name := "holdsNumber", desc := "()Z" } : Jvm.MethodName) prog_18_method_8_code (1 : Nat) (Option.some Jvm.ClassFile.FieldType.boolean)).before args0 about1 = true := code_word (m := ⟨6, 0⟩) (meth := k6m0) (c := k6c0) (by decide +kernel) rfl rfl rfl (by decide +kernel)
set_option maxRecDepth 65536 in
theorem w_c3 : (Jvm.Cond.code ({ cls := "com/example/tabulon/tabulon/document/CellTypeHoldsNumberPinLaw", name := "documentedNumeric", desc := "(Lcom/example/tabulon/tabulon/document/CellType;)Z" } : Jvm.MethodName) method_3_code (1 : Nat) (Option.some Jvm.ClassFile.FieldType.boolean)).before args0 about1 = true := code_word (m := ⟨1, 2⟩) (meth := k1m2) (c := k1c2) (by decide +kernel) rfl rfl rfl (by decide +kernel)
def codes1 : List Jvm.Cond := [Jvm.Cond.code x code maxLocals ret, Jvm.Cond.code ({ cls := "com/example/tabulon/tabulon/document/CellTypeHoldsNumberPinLaw", name := "pick", desc := "(I)Lcom/example/tabulon/tabulon/document/CellType;" } : Jvm.MethodName) method_2_code (1 : Nat) (Option.some (Jvm.ClassFile.FieldType.object "com/example/tabulon/tabulon/document/CellType")), Jvm.Cond.code ({ cls := "com/example/tabulon/tabulon/document/CellType", name := "holdsNumber", desc := "()Z" } : Jvm.MethodName) prog_18_method_8_code (1 : Nat) (Option.some Jvm.ClassFile.FieldType.boolean), Jvm.Cond.code ({ cls := "com/example/tabulon/tabulon/document/CellTypeHoldsNumberPinLaw", name := "documentedNumeric", desc := "(Lcom/example/tabulon/tabulon/document/CellType;)Z" } : Jvm.MethodName) method_3_code (1 : Nat) (Option.some Jvm.ClassFile.FieldType.boolean)]
set_option maxRecDepth 65536 in
theorem codes_eq : words1.filter isCode = codes1 := rfl
theorem w_codes : ∀ c ∈ words1.filter isCode, c.before args0 about1 = true := by
  rw [codes_eq]
  intro c hc
  simp only [codes1, List.mem_cons, List.not_mem_nil, or_false] at hc
  rcases hc with rfl | rfl | rfl | rfl
  · exact w_c0
  · exact w_c1
  · exact w_c2
  · exact w_c3
set_option maxRecDepth 65536 in
theorem w_t1 : (words1.take 24).all (fun c => isCode c || c.before args0 about1) = true := by decide +kernel
set_option maxRecDepth 65536 in
theorem w_t2 : ((words1.drop 24).take 24).all (fun c => isCode c || c.before args0 about1) = true := by decide +kernel
set_option maxRecDepth 65536 in
theorem w_t3 : ((words1.drop 24).drop 24).all (fun c => isCode c || c.before args0 about1) = true := by decide +kernel
theorem w_tables : (allAtoms (Jvm.Cond.code x code maxLocals ret :: tables_1)).before args0 about1 = true := by
  rw [allAtoms_all]
  show words1.all (fun c => c.before args0 about1) = true
  refine all_split ?_ w_codes
  rw [← List.take_append_drop 24 words1, List.all_append, w_t1, ← List.take_append_drop 24 (words1.drop 24), List.all_append, w_t2, w_t3]
  rfl
set_option maxRecDepth 65536 in
theorem w_case : (Jvm.Cond.and given_1 narrow_1).before args0 about1 = true := by decide +kernel
theorem w_applies : (headSpec (Jvm.Cond.code x code maxLocals ret :: tables_1) room_1).applies x e0.platform about1 = true :=
  (Spec.applies_iff w_frames).mpr ⟨w_running, w_runnable, w_alone, w_named, w_hears, w_ripe, w_room, w_tables⟩
theorem atStart : AtStart classFile x code maxLocals ret World_1 tables_1 room_1 Calls_1 rest_1 Pre_1 launch0 p0 e0 about1 theMethod args0 below0 :=
  ⟨lists_1, trivial, launch0.admits_env _ _ _, launch0.least_env, fairChoices_fair.cas, fairChoices_fair.clock, w_frames, w_args, w_heap, w_applies, trivial, trivial, w_case⟩
end start1
theorem witness_1 : WitnessClaimed_1 := ⟨start1.p0, start1.e0, start1.about1, start1.theMethod, start1.args0, start1.below0, start1.atStart⟩
end Jvm.Pilot.@@N@@
