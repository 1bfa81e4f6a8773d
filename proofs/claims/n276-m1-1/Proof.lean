import JvmDerived
import JvmDerived.Pilot.@@N@@Statement
import JvmDerived.Pilot.@@N@@Code
set_option linter.unusedVariables false
set_option linter.unusedSimpArgs false
@@BLOCK:NumsL.lean.txt@@
namespace Jvm.RoadKit
open Sem ClassFile Op Lib Jvm.Stand Jvm.Free Jvm.LawKit
section New
variable {p : Program} {l : Launch} {e : Env} {R : Room} {s : State} {m : MethodId} {args : Array Value} {below : List Frame} {meth : Method} {c : Code} {T : State} {locs : List Loc} {cells slots : Nat}
theorem retI (X : Stand p l e R s m args below meth c T locs cells slots) (hx : p.tables.exec = Jvm.exec) {pc : Nat} {Ls : Array Slot} {z : Int32} {rest : List Value} (hret : meth.sig.returnType = some .int) (hd : decode c.code pc = .ok (.ireturn, 1)) {fs : List Frame}
    (hl : ∀ (f : JFrame) (acts : List Action), f.method = m → f.locked = none → f.entered = [] → (doReturn e (T.setTop f) acts (some (.int z))).1 = T.setFrames fs) : Steps p.tables e below (T.setTop (mkF m pc Ls (.int z :: rest))) (T.setFrames fs) := by
  have hm' : T.vm.method? m = some meth := X.method'
  have hn : narrow .int (.int z) = .int z := rfl
  show Steps p.tables e below (T.setTop { method := m, pc := pc, locals := Ls, stack := _ :: rest, locked := none }) _
  jvm_step X.here [X.here.top, hx, hd, hm', hret, hn]
  first | (intro acts; rw [hl _ acts rfl rfl rfl]) | rw [hl _ _ rfl rfl rfl]
  exact Steps.refl _
end New
end Jvm.RoadKit
namespace Jvm.Pilot.@@N@@
open Jvm Jvm.ClassFile Sem Op Lib Jvm.Free Jvm.Stand Jvm.LawKit Jvm.RoadKit Bundle Jvm.Pilot.@@N@@.Jvm.D
theorem ow {a0 : Array Value} {Z : State} (hw : ∀ d ∈ tables_1, d.before a0 Z = true) (i : Nat) {d : Jvm.Cond} (h : tables_1[i]? = some d) : d.before a0 Z = true := hw _ (List.mem_of_getElem? h)
abbrev rr0 : Room := { frames := 0, cells := 0, slots := 0, locals := 0 }
/-- a body that writes nothing and makes nothing: it returns r, the heap as it was -/
def QP (r : Option Value) (h0 : Heap) (n0 : Nat) (v : Option Value) (h : Heap) (L : List Loc) : Prop := v = r ∧ Fr n0 L ∧ h = h0
theorem own_fldI {Z : State} {args : Array Value} {t : Term} {C n d : String} {a : Addr} {k : Int32} (ev : t.eval args Z none [] Z = some (.ref a)) (h : (Jvm.Cond.eq (Term.field t C n d) (Term.int k)).value args Z none Z [] = some true) : Fld Z Z.heap a C n d (.int k) := by
  obtain ⟨x, y, e1, e2, k1, k2⟩ := cmp_v (Or.inl h)
  rw [Term.int_eval] at e2
  cases e2
  obtain ⟨z, rfl⟩ := k2
  have e3 : z = k := by simpa [Cond.value, e1, Term.int_eval] using h
  subst e3
  exact Fld.start ((fld_at ev).symm.trans e1)
theorem own_ne {Z : State} {h : Heap} {a b : Addr} {C n d : String} {v w : Value} (F : Fld Z h a C n d v) (G : Fld Z h b C n d w) (hn : v ≠ w) : ¬ (a = b) := by
  rintro rfl
  obtain ⟨c1, _, _, _, f1, h1, h2, -, -, -, -, h7⟩ := F
  obtain ⟨c2, _, _, _, f2, g1, g2, -, -, -, -, g7⟩ := G
  cases h1.symm.trans g1
  cases h2.symm.trans g2
  exact hn (Option.some.inj (h7.symm.trans g7))
theorem d1_0 : decode prog_268_method_6_code 0 = .ok (.aload_n 0, 1) := by decide +kernel
theorem d1_1 : decode prog_268_method_6_code 1 = .ok (.getfield 35, 3) := by decide +kernel
theorem d1_4 : decode prog_268_method_6_code 4 = .ok (.bipush 64, 2) := by decide +kernel
theorem d1_6 : decode prog_268_method_6_code 6 = .ok (.if_icmp .ne 7, 3) := by decide +kernel
theorem d1_13 : decode prog_268_method_6_code 13 = .ok (.lload_n 1, 1) := by decide +kernel
theorem d1_14 : decode prog_268_method_6_code 14 = .ok (.lconst 1, 1) := by decide +kernel
theorem d1_15 : decode prog_268_method_6_code 15 = .ok (.aload_n 0, 1) := by decide +kernel
theorem d1_16 : decode prog_268_method_6_code 16 = .ok (.getfield 35, 3) := by decide +kernel
theorem d1_19 : decode prog_268_method_6_code 19 = .ok (.lshl, 1) := by decide +kernel
theorem d1_20 : decode prog_268_method_6_code 20 = .ok (.lconst 1, 1) := by decide +kernel
theorem d1_21 : decode prog_268_method_6_code 21 = .ok (.lsub, 1) := by decide +kernel
theorem d1_22 : decode prog_268_method_6_code 22 = .ok (.land, 1) := by decide +kernel
theorem d1_23 : decode prog_268_method_6_code 23 = .ok (.lreturn, 1) := by decide +kernel
theorem pn_com_example_unrest_unrest_model_Width : plainName "com/example/unrest/unrest/model/Width" = true := by first | (simp [plainName, overriddenIn]; done) | decide +kernel
theorem ef_1 (m : MethodId) (x0 : Addr) (x1 : Int64) : entryFrame m #[(.ref x0), (.long x1)] 3 = mkF m 0 #[.val (.ref x0), .val (.long x1), .second] [] := by first | (simp [entryFrame, mkF, argsToLocals, Value.category]; done) | rfl
abbrev nm_1 : MethodName := ⟨"com/example/unrest/unrest/model/Width", "unsigned", "(J)J"⟩
set_option maxRecDepth 65536 in
set_option maxHeartbeats 40000000 in
theorem rm1t (l : Launch) (Z : State) (a0 : Array Value) (hw : ∀ d ∈ tables_1, d.before a0 Z = true) (ws : List Jvm.Cond) (a1 : Addr) (q2 : Int64) (w3 : Int32) (h0 : Heap) (n0 : Nat) (Z0 : n0 ≤ h0.size) (F : Fld Z h0 a1 "com/example/unrest/unrest/model/Width" "bits" "I" (.int w3)) (hc6 : ¬ (w3 = (64 : Int32))) :
    MetFree l nm_1 (head1 (Jvm.Cond.code nm_1 prog_268_method_6_code 3 (some .long) :: ws) rr0) (fun a U => a = #[(.ref a1), (.long q2)] ∧ Z.Warmed39 U.vm ∧ U.heap = h0) (fun _ _ _ _ _ => True) (fun _ U o U' => ∃ v L, o = .returned v ∧ QP (some (.long (q2 &&& (((1 : Int64) <<< (w3 &&& 0x3f).toInt64) - (1 : Int64))))) h0 n0 v U'.heap L ∧ FrameEnd U o U' L rr0.cells rr0.slots) := by
  refine MetFree.of_bodySF (plainFor_of_name pn_com_example_unrest_unrest_model_Width) hisR ?_
  intro p e s m args below meth c s₁ Bd hml0 hP hK
  obtain ⟨rfl, hZ, hh⟩ := hP
  have hx := Bd.exec
  have hby := Bd.bytes
  have hml : c.maxLocals = 3 := hml0
  have hown : s.vm.findClass "com/example/unrest/unrest/model/Width" = some m.cls := findClass_of_methodNamed Bd.named
  have hnm := (name_of_methodNamed Bd.named Bd.method).1
  have X0 : Stand p l e rr0 s m #[(.ref a1), (.long q2)] below meth c s₁ [] 0 0 := Stand.of_body Bd
  have e0 : s₁.heap = h0 := by rw [← hh, Bd.state]; rfl
  have N0 := Fr.nil n0
  have pre0 : ∀ t, Steps p.tables e below (s₁.setTop (mkF m 0 #[.val (.ref a1), .val (.long q2), .second] [])) t → Steps p.tables e below (s₁.setTop (entryFrame m #[(.ref a1), (.long q2)] 3)) t := fun t k => castTop (ef_1 m a1 q2) k
  obtain ⟨T1, X1, e1, st1⟩ := getF X0 hx hZ hown (host := "") (Or.inl (ow hw 9 rfl)) Via.refl e0 F (g := (mkF m 1 #[.val (.ref a1), .val (.long q2), .second] [(.ref a1)])) rfl rfl (hb hby d1_1)
  obtain ⟨T2, X2, e2, st2⟩ := getF X1 hx hZ hown (host := "") (Or.inl (ow hw 9 rfl)) Via.refl e1 F (g := (mkF m 16 #[.val (.ref a1), .val (.long q2), .second] [(.ref a1), (.long (1 : Int64)), (.long q2)])) rfl rfl (hb hby d1_16)
  obtain ⟨fs, hr, hrun, hended, hW, hsame⟩ := X2.leave (v := some (.long (q2 &&& (((1 : Int64) <<< (w3 &&& 0x3f).toInt64) - (1 : Int64))))) (fun h => by rw [Bd.returns] at h; cases h)
  refine ⟨_, _, pre0 _ ?_, hrun, hended, _, _, rfl, ?_, ⟨_, rfl⟩, hW, hsame.mono (by decide) (by decide)⟩
  · show Steps p.tables e below (s₁.setTop (mkF m 0 #[.val (.ref a1), .val (.long q2), .second] [])) _
    refine XS.aloadN X0.here hx rfl (hb hby d1_0) rfl rfl ?_
    show Steps p.tables e below (s₁.setTop (mkF m 1 #[.val (.ref a1), .val (.long q2), .second] [(.ref a1)])) _
    refine st1 _ ?_
    show Steps p.tables e below (T1.setTop (mkF m 4 #[.val (.ref a1), .val (.long q2), .second] [(.int w3)])) _
    refine XS.bipush X1.here hx rfl (hb hby d1_4) ?_
    show Steps p.tables e below (T1.setTop (mkF m 6 #[.val (.ref a1), .val (.long q2), .second] [(.int (64 : Int32)), (.int w3)])) _
    refine XS.icmpYes X1.here hx rfl (pc0 := 6) (pc' := 13) rfl (hb hby d1_6) rfl (feq hc6).2 (by decide) (by decide) ?_
    show Steps p.tables e below (T1.setTop (mkF m 13 #[.val (.ref a1), .val (.long q2), .second] [])) _
    refine XS.lloadN X1.here hx rfl (hb hby d1_13) rfl ?_
    show Steps p.tables e below (T1.setTop (mkF m 14 #[.val (.ref a1), .val (.long q2), .second] [(.long q2)])) _
    refine XS.lconst X1.here hx rfl (hb hby d1_14) ?_
    show Steps p.tables e below (T1.setTop (mkF m 15 #[.val (.ref a1), .val (.long q2), .second] [(.long (1 : Int64)), (.long q2)])) _
    refine XS.aloadN X1.here hx rfl (hb hby d1_15) rfl rfl ?_
    show Steps p.tables e below (T1.setTop (mkF m 16 #[.val (.ref a1), .val (.long q2), .second] [(.ref a1), (.long (1 : Int64)), (.long q2)])) _
    refine st2 _ ?_
    show Steps p.tables e below (T2.setTop (mkF m 19 #[.val (.ref a1), .val (.long q2), .second] [(.int w3), (.long (1 : Int64)), (.long q2)])) _
    refine XS.lshl X2.here hx rfl (hb hby d1_19) rfl ?_
    show Steps p.tables e below (T2.setTop (mkF m 20 #[.val (.ref a1), .val (.long q2), .second] [(.long ((1 : Int64) <<< (w3 &&& 0x3f).toInt64)), (.long q2)])) _
    refine XS.lconst X2.here hx rfl (hb hby d1_20) ?_
    show Steps p.tables e below (T2.setTop (mkF m 21 #[.val (.ref a1), .val (.long q2), .second] [(.long (1 : Int64)), (.long ((1 : Int64) <<< (w3 &&& 0x3f).toInt64)), (.long q2)])) _
    refine XS.lsub X2.here hx rfl (hb hby d1_21) rfl ?_
    show Steps p.tables e below (T2.setTop (mkF m 22 #[.val (.ref a1), .val (.long q2), .second] [(.long (((1 : Int64) <<< (w3 &&& 0x3f).toInt64) - (1 : Int64))), (.long q2)])) _
    refine XS.land X2.here hx rfl (hb hby d1_22) rfl ?_
    show Steps p.tables e below (T2.setTop (mkF m 23 #[.val (.ref a1), .val (.long q2), .second] [(.long (q2 &&& (((1 : Int64) <<< (w3 &&& 0x3f).toInt64) - (1 : Int64))))])) _
    exact retOut X2 hx Bd.returns rfl (Or.inr (Or.inl ⟨rfl, rfl, _, rfl⟩)) (hb hby d1_23) hr
  · show QP (some (.long (q2 &&& (((1 : Int64) <<< (w3 &&& 0x3f).toInt64) - (1 : Int64))))) h0 n0 _ T2.heap _
    rw [e2]
    exact ⟨rfl, N0, rfl⟩
theorem d1_9 : decode prog_268_method_6_code 9 = .ok (.lload_n 1, 1) := by decide +kernel
theorem d1_10 : decode prog_268_method_6_code 10 = .ok (.goto 13, 3) := by decide +kernel
set_option maxRecDepth 65536 in
set_option maxHeartbeats 40000000 in
theorem rm1f (l : Launch) (Z : State) (a0 : Array Value) (hw : ∀ d ∈ tables_1, d.before a0 Z = true) (ws : List Jvm.Cond) (a1 : Addr) (q2 : Int64) (w3 : Int32) (h0 : Heap) (n0 : Nat) (Z0 : n0 ≤ h0.size) (F : Fld Z h0 a1 "com/example/unrest/unrest/model/Width" "bits" "I" (.int w3)) (hc6 : w3 = (64 : Int32)) :
    MetFree l nm_1 (head1 (Jvm.Cond.code nm_1 prog_268_method_6_code 3 (some .long) :: ws) rr0) (fun a U => a = #[(.ref a1), (.long q2)] ∧ Z.Warmed39 U.vm ∧ U.heap = h0) (fun _ _ _ _ _ => True) (fun _ U o U' => ∃ v L, o = .returned v ∧ QP (some (.long q2)) h0 n0 v U'.heap L ∧ FrameEnd U o U' L rr0.cells rr0.slots) := by
  refine MetFree.of_bodySF (plainFor_of_name pn_com_example_unrest_unrest_model_Width) hisR ?_
  intro p e s m args below meth c s₁ Bd hml0 hP hK
  obtain ⟨rfl, hZ, hh⟩ := hP
  have hx := Bd.exec
  have hby := Bd.bytes
  have hml : c.maxLocals = 3 := hml0
  have hown : s.vm.findClass "com/example/unrest/unrest/model/Width" = some m.cls := findClass_of_methodNamed Bd.named
  have hnm := (name_of_methodNamed Bd.named Bd.method).1
  have X0 : Stand p l e rr0 s m #[(.ref a1), (.long q2)] below meth c s₁ [] 0 0 := Stand.of_body Bd
  have e0 : s₁.heap = h0 := by rw [← hh, Bd.state]; rfl
  have N0 := Fr.nil n0
  have pre0 : ∀ t, Steps p.tables e below (s₁.setTop (mkF m 0 #[.val (.ref a1), .val (.long q2), .second] [])) t → Steps p.tables e below (s₁.setTop (entryFrame m #[(.ref a1), (.long q2)] 3)) t := fun t k => castTop (ef_1 m a1 q2) k
  obtain ⟨T1, X1, e1, st1⟩ := getF X0 hx hZ hown (host := "") (Or.inl (ow hw 9 rfl)) Via.refl e0 F (g := (mkF m 1 #[.val (.ref a1), .val (.long q2), .second] [(.ref a1)])) rfl rfl (hb hby d1_1)
  obtain ⟨fs, hr, hrun, hended, hW, hsame⟩ := X1.leave (v := some (.long q2)) (fun h => by rw [Bd.returns] at h; cases h)
  refine ⟨_, _, pre0 _ ?_, hrun, hended, _, _, rfl, ?_, ⟨_, rfl⟩, hW, hsame.mono (by decide) (by decide)⟩
  · show Steps p.tables e below (s₁.setTop (mkF m 0 #[.val (.ref a1), .val (.long q2), .second] [])) _
    refine XS.aloadN X0.here hx rfl (hb hby d1_0) rfl rfl ?_
    show Steps p.tables e below (s₁.setTop (mkF m 1 #[.val (.ref a1), .val (.long q2), .second] [(.ref a1)])) _
    refine st1 _ ?_
    show Steps p.tables e below (T1.setTop (mkF m 4 #[.val (.ref a1), .val (.long q2), .second] [(.int w3)])) _
    refine XS.bipush X1.here hx rfl (hb hby d1_4) ?_
    show Steps p.tables e below (T1.setTop (mkF m 6 #[.val (.ref a1), .val (.long q2), .second] [(.int (64 : Int32)), (.int w3)])) _
    refine XS.icmpNo X1.here hx rfl (hb hby d1_6) rfl (teq hc6).2 ?_
    show Steps p.tables e below (T1.setTop (mkF m 9 #[.val (.ref a1), .val (.long q2), .second] [])) _
    refine XS.lloadN X1.here hx rfl (hb hby d1_9) rfl ?_
    show Steps p.tables e below (T1.setTop (mkF m 10 #[.val (.ref a1), .val (.long q2), .second] [(.long q2)])) _
    refine XS.goto X1.here hx rfl (pc0 := 10) (pc' := 23) rfl (hb hby d1_10) (by decide) (by decide) ?_
    show Steps p.tables e below (T1.setTop (mkF m 23 #[.val (.ref a1), .val (.long q2), .second] [(.long q2)])) _
    exact retOut X1 hx Bd.returns rfl (Or.inr (Or.inl ⟨rfl, rfl, _, rfl⟩)) (hb hby d1_23) hr
  · show QP (some (.long q2)) h0 n0 _ T1.heap _
    rw [e1]
    exact ⟨rfl, N0, rfl⟩
theorem own_m8 : (((1 : Int64) <<< ((8 : Int32) &&& 0x3f).toInt64) - (1 : Int64)) = (255 : Int64) := by decide
theorem own_m16 : (((1 : Int64) <<< ((16 : Int32) &&& 0x3f).toInt64) - (1 : Int64)) = (65535 : Int64) := by decide
theorem own_m32 : (((1 : Int64) <<< ((32 : Int32) &&& 0x3f).toInt64) - (1 : Int64)) = (4294967295 : Int64) := by decide
theorem pd_0 : parseMethodDescriptor "(J)J" = some ⟨[.long], some .long⟩ := by decide +kernel
theorem pn_com_example_unrest_unrest_model_WidthUnsignedPinLaw : plainName "com/example/unrest/unrest/model/WidthUnsignedPinLaw" = true := by first | (simp [plainName, overriddenIn]; done) | decide +kernel
theorem ef_0 (m : MethodId) (x0 : Int32) (x1 : Int64) : entryFrame m #[(.int x0), (.long x1)] maxLocals = mkF m 0 #[.val (.int x0), .val (.long x1), .second, .unset, .unset, .unset, .unset] [] := by first | (simp [entryFrame, mkF, argsToLocals, Value.category, maxLocals]; done) | rfl
set_option maxRecDepth 65536 in
set_option maxHeartbeats 40000000 in
theorem rm0a (l : Launch) (Z : State) (a0 : Array Value) (hw : ∀ d ∈ tables_1, d.before a0 Z = true) (ws : List Jvm.Cond) (p1 : Int32) (q2 : Int64) (w3 : Addr) (h0 : Heap) (n0 : Nat) (Z0 : n0 ≤ h0.size) (S : Sta Z h0 "com/example/unrest/unrest/model/Width" "I8" "Lcom/example/unrest/unrest/model/Width;" (.ref w3)) (EW : Exa Z h0 w3 "com/example/unrest/unrest/model/Width") (F : Fld Z h0 w3 "com/example/unrest/unrest/model/Width" "bits" "I" (.int (8 : Int32))) (hc5 : (p1 &&& (3 : Int32)) = (0 : Int32)) :
    MetFree l x (head1 (Jvm.Cond.code x code maxLocals ret :: ws) room_1) (fun a U => a = #[(.int p1), (.long q2)] ∧ Z.Warmed39 U.vm ∧ U.heap = h0) (fun _ _ _ _ _ => True) (fun _ U o U' => ∃ v L, o = .returned v ∧ QP (some (.int (1 : Int32))) h0 n0 v U'.heap L ∧ FrameEnd U o U' L room_1.cells room_1.slots) := by
  refine MetFree.of_bodySF (plainFor_of_name pn_com_example_unrest_unrest_model_WidthUnsignedPinLaw) hisR ?_
  intro p e s m args below meth c s₁ Bd hml0 hP hK
  obtain ⟨rfl, hZ, hh⟩ := hP
  have hx := Bd.exec
  have hby := Bd.bytes
  have hml : c.maxLocals = 7 := hml0
  have hown : s.vm.findClass "com/example/unrest/unrest/model/WidthUnsignedPinLaw" = some m.cls := findClass_of_methodNamed Bd.named
  have hnm := (name_of_methodNamed Bd.named Bd.method).1
  have X0 : Stand p l e room_1 s m #[(.int p1), (.long q2)] below meth c s₁ [] 0 0 := Stand.of_body Bd
  have e0 : s₁.heap = h0 := by rw [← hh, Bd.state]; rfl
  have N0 := Fr.nil n0
  have pre0 : ∀ t, Steps p.tables e below (s₁.setTop (mkF m 0 #[.val (.int p1), .val (.long q2), .second, .unset, .unset, .unset, .unset] [])) t → Steps p.tables e below (s₁.setTop (entryFrame m #[(.int p1), (.long q2)] maxLocals)) t := fun t k => castTop (ef_0 m p1 q2) k
  obtain ⟨T1, X1, e1, st1⟩ := getS2 X0 hx hZ hown (host := "") (Or.inl (ow hw 0 rfl)) Via.refl e0 S (g := (mkF m 8 #[.val (.int p1), .val (.long q2), .second, .val (.int (p1 &&& (3 : Int32))), .unset, .unset, .unset] [])) rfl (hb hby at_8)
  obtain ⟨cq2, kq2, q2a, q2b, q2c⟩ := isOf hZ e1 EW
  obtain ⟨_, _, ⟨T2, L2, k2, n2⟩, -, X2, ⟨Lc2, hQ2, l2, y2, z2⟩, st2⟩ := X1.virtualBack hx (y := nm_1) (z := nm_1) hown (mvT hZ (ow hw 4 rfl)) (mvT hZ (ow hw 5 rfl)) (notFace_of_selects (args := #[]) (mvT hZ (ow hw 7 rfl))) (mvT hZ (ow hw 7 rfl)) (mvT hZ (ow hw 6 rfl)) (by decide) (backOf (W := 0) (rm1t l Z a0 hw [] w3 q2 (8 : Int32) h0 n0 Z0 F (by decide)) hZ (ow hw 8 rfl) (ow hw 1 rfl) (by decide) (by decide)) q2a q2c (g := (mkF m 74 #[.val (.int p1), .val (.long q2), .second, .val (.int (p1 &&& (3 : Int32))), .val (.ref w3), .val (.long (q2 &&& (255 : Int64))), .second] [(.long q2), (.ref w3)])) rfl (by rw [hml]; rfl) (Steps.refl _) (argsL := [(.long q2)]) (rest := []) (lenOf pd_0 rfl) rfl (by show 2 * 0 + _ ≤ _; exact Nat.le_of_eq rfl) (hb hby at_74) (fun _ _ => ⟨rfl, e1, (by decide : 0 + 0 ≤ _), (by decide : 0 + 0 ≤ _)⟩)
  dsimp only [Pt.U, Pt.locs, Pt.cells, Pt.slots] at X2 l2 y2 z2 st2 hQ2
  subst l2 y2 z2
  obtain ⟨rfl, N2q, e2⟩ := hQ2
  have N2 := Fr.app N0 N2q
  obtain ⟨fs, hr, hrun, hended, hW, hsame⟩ := X2.leave (v := some (.int (1 : Int32))) (fun h => by rw [Bd.returns] at h; cases h)
  refine ⟨_, _, pre0 _ ?_, hrun, hended, _, _, rfl, ?_, ⟨_, rfl⟩, hW, hsame.mono (by decide) (by decide)⟩
  · show Steps p.tables e below (s₁.setTop (mkF m 0 #[.val (.int p1), .val (.long q2), .second, .unset, .unset, .unset, .unset] [])) _
    refine XS.iloadN X0.here hx rfl (hb hby at_0) rfl ?_
    show Steps p.tables e below (s₁.setTop (mkF m 1 #[.val (.int p1), .val (.long q2), .second, .unset, .unset, .unset, .unset] [(.int p1)])) _
    refine XS.iconst X0.here hx rfl (hb hby at_1) ?_
    show Steps p.tables e below (s₁.setTop (mkF m 2 #[.val (.int p1), .val (.long q2), .second, .unset, .unset, .unset, .unset] [(.int (3 : Int32)), (.int p1)])) _
    refine XS.iand X0.here hx rfl (hb hby at_2) rfl ?_
    show Steps p.tables e below (s₁.setTop (mkF m 3 #[.val (.int p1), .val (.long q2), .second, .unset, .unset, .unset, .unset] [(.int (p1 &&& (3 : Int32)))])) _
    refine XS.istoreN X0.here hx rfl (hb hby at_3) rfl (l' := #[.val (.int p1), .val (.long q2), .second, .val (.int (p1 &&& (3 : Int32))), .unset, .unset, .unset]) rfl ?_
    show Steps p.tables e below (s₁.setTop (mkF m 4 #[.val (.int p1), .val (.long q2), .second, .val (.int (p1 &&& (3 : Int32))), .unset, .unset, .unset] [])) _
    refine XS.iloadN X0.here hx rfl (hb hby at_4) rfl ?_
    show Steps p.tables e below (s₁.setTop (mkF m 5 #[.val (.int p1), .val (.long q2), .second, .val (.int (p1 &&& (3 : Int32))), .unset, .unset, .unset] [(.int (p1 &&& (3 : Int32)))])) _
    refine XS.ifNo X0.here hx rfl (hb hby at_5) rfl ((if0 _ _).trans (teq hc5).2) ?_
    show Steps p.tables e below (s₁.setTop (mkF m 8 #[.val (.int p1), .val (.long q2), .second, .val (.int (p1 &&& (3 : Int32))), .unset, .unset, .unset] [])) _
    refine st1 _ ?_
    show Steps p.tables e below (T1.setTop (mkF m 11 #[.val (.int p1), .val (.long q2), .second, .val (.int (p1 &&& (3 : Int32))), .unset, .unset, .unset] [(.ref w3)])) _
    refine XS.astore X1.here hx rfl (hb hby at_11) rfl rfl (l' := #[.val (.int p1), .val (.long q2), .second, .val (.int (p1 &&& (3 : Int32))), .val (.ref w3), .unset, .unset]) rfl ?_
    show Steps p.tables e below (T1.setTop (mkF m 13 #[.val (.int p1), .val (.long q2), .second, .val (.int (p1 &&& (3 : Int32))), .val (.ref w3), .unset, .unset] [])) _
    refine XS.lloadN X1.here hx rfl (hb hby at_13) rfl ?_
    show Steps p.tables e below (T1.setTop (mkF m 14 #[.val (.int p1), .val (.long q2), .second, .val (.int (p1 &&& (3 : Int32))), .val (.ref w3), .unset, .unset] [(.long q2)])) _
    refine X1.ldc2Long hx hown (mvT hZ (ow hw 3 rfl)) (g := (mkF m 14 #[.val (.int p1), .val (.long q2), .second, .val (.int (p1 &&& (3 : Int32))), .val (.ref w3), .unset, .unset] [(.long q2)])) rfl (hb hby at_14) _ ?_
    show Steps p.tables e below (T1.setTop (mkF m 17 #[.val (.int p1), .val (.long q2), .second, .val (.int (p1 &&& (3 : Int32))), .val (.ref w3), .unset, .unset] [(.long (255 : Int64)), (.long q2)])) _
    refine XS.land X1.here hx rfl (hb hby at_17) rfl ?_
    show Steps p.tables e below (T1.setTop (mkF m 18 #[.val (.int p1), .val (.long q2), .second, .val (.int (p1 &&& (3 : Int32))), .val (.ref w3), .unset, .unset] [(.long (q2 &&& (255 : Int64)))])) _
    refine XS.lstore X1.here hx rfl (hb hby at_18) rfl (l' := #[.val (.int p1), .val (.long q2), .second, .val (.int (p1 &&& (3 : Int32))), .val (.ref w3), .val (.long (q2 &&& (255 : Int64))), .second]) rfl ?_
    show Steps p.tables e below (T1.setTop (mkF m 20 #[.val (.int p1), .val (.long q2), .second, .val (.int (p1 &&& (3 : Int32))), .val (.ref w3), .val (.long (q2 &&& (255 : Int64))), .second] [])) _
    refine XS.goto X1.here hx rfl (pc0 := 20) (pc' := 71) rfl (hb hby at_20) (by decide) (by decide) ?_
    show Steps p.tables e below (T1.setTop (mkF m 71 #[.val (.int p1), .val (.long q2), .second, .val (.int (p1 &&& (3 : Int32))), .val (.ref w3), .val (.long (q2 &&& (255 : Int64))), .second] [])) _
    refine XS.aload X1.here hx rfl (hb hby at_71) rfl rfl ?_
    show Steps p.tables e below (T1.setTop (mkF m 73 #[.val (.int p1), .val (.long q2), .second, .val (.int (p1 &&& (3 : Int32))), .val (.ref w3), .val (.long (q2 &&& (255 : Int64))), .second] [(.ref w3)])) _
    refine XS.lloadN X1.here hx rfl (hb hby at_73) rfl ?_
    show Steps p.tables e below (T1.setTop (mkF m 74 #[.val (.int p1), .val (.long q2), .second, .val (.int (p1 &&& (3 : Int32))), .val (.ref w3), .val (.long (q2 &&& (255 : Int64))), .second] [(.long q2), (.ref w3)])) _
    refine st2.trans ?_
    show Steps p.tables e below (T2.setTop (mkF m 77 #[.val (.int p1), .val (.long q2), .second, .val (.int (p1 &&& (3 : Int32))), .val (.ref w3), .val (.long (q2 &&& (255 : Int64))), .second] [(.long (q2 &&& (((1 : Int64) <<< ((8 : Int32) &&& 0x3f).toInt64) - (1 : Int64))))])) _
    refine XS.lload X2.here hx rfl (hb hby at_77) rfl ?_
    show Steps p.tables e below (T2.setTop (mkF m 79 #[.val (.int p1), .val (.long q2), .second, .val (.int (p1 &&& (3 : Int32))), .val (.ref w3), .val (.long (q2 &&& (255 : Int64))), .second] [(.long (q2 &&& (255 : Int64))), (.long (q2 &&& (((1 : Int64) <<< ((8 : Int32) &&& 0x3f).toInt64) - (1 : Int64))))])) _
    refine XS.lcmp X2.here hx rfl (hb hby at_79) rfl ?_
    show Steps p.tables e below (T2.setTop (mkF m 80 #[.val (.int p1), .val (.long q2), .second, .val (.int (p1 &&& (3 : Int32))), .val (.ref w3), .val (.long (q2 &&& (255 : Int64))), .second] [(.int (lcmpW (q2 &&& (((1 : Int64) <<< ((8 : Int32) &&& 0x3f).toInt64) - (1 : Int64))) (q2 &&& (255 : Int64))))])) _
    refine XS.ifNo X2.here hx rfl (hb hby at_80) rfl ((if0 _ _).trans (teq ((lw_eq _ _).mpr ((by rw [own_m8]) : (q2 &&& (((1 : Int64) <<< ((8 : Int32) &&& 0x3f).toInt64) - (1 : Int64))) = (q2 &&& (255 : Int64))))).2) ?_
    show Steps p.tables e below (T2.setTop (mkF m 83 #[.val (.int p1), .val (.long q2), .second, .val (.int (p1 &&& (3 : Int32))), .val (.ref w3), .val (.long (q2 &&& (255 : Int64))), .second] [])) _
    refine XS.iconst X2.here hx rfl (hb hby at_83) ?_
    show Steps p.tables e below (T2.setTop (mkF m 84 #[.val (.int p1), .val (.long q2), .second, .val (.int (p1 &&& (3 : Int32))), .val (.ref w3), .val (.long (q2 &&& (255 : Int64))), .second] [(.int (1 : Int32))])) _
    refine XS.goto X2.here hx rfl (pc0 := 84) (pc' := 88) rfl (hb hby at_84) (by decide) (by decide) ?_
    show Steps p.tables e below (T2.setTop (mkF m 88 #[.val (.int p1), .val (.long q2), .second, .val (.int (p1 &&& (3 : Int32))), .val (.ref w3), .val (.long (q2 &&& (255 : Int64))), .second] [(.int (1 : Int32))])) _
    exact retN X2 hx (t := .boolean) Bd.returns (by simp) (hb hby at_88) hr
  · show QP (some (.int (1 : Int32))) h0 n0 _ T2.heap _
    rw [e2]
    exact ⟨rfl, N2, rfl⟩
set_option maxRecDepth 65536 in
set_option maxHeartbeats 40000000 in
theorem rm0b (l : Launch) (Z : State) (a0 : Array Value) (hw : ∀ d ∈ tables_1, d.before a0 Z = true) (ws : List Jvm.Cond) (p1 : Int32) (q2 : Int64) (w3 : Addr) (h0 : Heap) (n0 : Nat) (Z0 : n0 ≤ h0.size) (S : Sta Z h0 "com/example/unrest/unrest/model/Width" "I16" "Lcom/example/unrest/unrest/model/Width;" (.ref w3)) (EW : Exa Z h0 w3 "com/example/unrest/unrest/model/Width") (F : Fld Z h0 w3 "com/example/unrest/unrest/model/Width" "bits" "I" (.int (16 : Int32))) (hc5 : ¬ ((p1 &&& (3 : Int32)) = (0 : Int32))) (hc25 : (p1 &&& (3 : Int32)) = (1 : Int32)) :
    MetFree l x (head1 (Jvm.Cond.code x code maxLocals ret :: ws) room_1) (fun a U => a = #[(.int p1), (.long q2)] ∧ Z.Warmed39 U.vm ∧ U.heap = h0) (fun _ _ _ _ _ => True) (fun _ U o U' => ∃ v L, o = .returned v ∧ QP (some (.int (1 : Int32))) h0 n0 v U'.heap L ∧ FrameEnd U o U' L room_1.cells room_1.slots) := by
  refine MetFree.of_bodySF (plainFor_of_name pn_com_example_unrest_unrest_model_WidthUnsignedPinLaw) hisR ?_
  intro p e s m args below meth c s₁ Bd hml0 hP hK
  obtain ⟨rfl, hZ, hh⟩ := hP
  have hx := Bd.exec
  have hby := Bd.bytes
  have hml : c.maxLocals = 7 := hml0
  have hown : s.vm.findClass "com/example/unrest/unrest/model/WidthUnsignedPinLaw" = some m.cls := findClass_of_methodNamed Bd.named
  have hnm := (name_of_methodNamed Bd.named Bd.method).1
  have X0 : Stand p l e room_1 s m #[(.int p1), (.long q2)] below meth c s₁ [] 0 0 := Stand.of_body Bd
  have e0 : s₁.heap = h0 := by rw [← hh, Bd.state]; rfl
  have N0 := Fr.nil n0
  have pre0 : ∀ t, Steps p.tables e below (s₁.setTop (mkF m 0 #[.val (.int p1), .val (.long q2), .second, .unset, .unset, .unset, .unset] [])) t → Steps p.tables e below (s₁.setTop (entryFrame m #[(.int p1), (.long q2)] maxLocals)) t := fun t k => castTop (ef_0 m p1 q2) k
  obtain ⟨T1, X1, e1, st1⟩ := getS2 X0 hx hZ hown (host := "") (Or.inl (ow hw 11 rfl)) Via.refl e0 S (g := (mkF m 28 #[.val (.int p1), .val (.long q2), .second, .val (.int (p1 &&& (3 : Int32))), .unset, .unset, .unset] [])) rfl (hb hby at_28)
  obtain ⟨cq2, kq2, q2a, q2b, q2c⟩ := isOf hZ e1 EW
  obtain ⟨_, _, ⟨T2, L2, k2, n2⟩, -, X2, ⟨Lc2, hQ2, l2, y2, z2⟩, st2⟩ := X1.virtualBack hx (y := nm_1) (z := nm_1) hown (mvT hZ (ow hw 4 rfl)) (mvT hZ (ow hw 5 rfl)) (notFace_of_selects (args := #[]) (mvT hZ (ow hw 7 rfl))) (mvT hZ (ow hw 7 rfl)) (mvT hZ (ow hw 6 rfl)) (by decide) (backOf (W := 0) (rm1t l Z a0 hw [] w3 q2 (16 : Int32) h0 n0 Z0 F (by decide)) hZ (ow hw 8 rfl) (ow hw 1 rfl) (by decide) (by decide)) q2a q2c (g := (mkF m 74 #[.val (.int p1), .val (.long q2), .second, .val (.int (p1 &&& (3 : Int32))), .val (.ref w3), .val (.long (q2 &&& (65535 : Int64))), .second] [(.long q2), (.ref w3)])) rfl (by rw [hml]; rfl) (Steps.refl _) (argsL := [(.long q2)]) (rest := []) (lenOf pd_0 rfl) rfl (by show 2 * 0 + _ ≤ _; exact Nat.le_of_eq rfl) (hb hby at_74) (fun _ _ => ⟨rfl, e1, (by decide : 0 + 0 ≤ _), (by decide : 0 + 0 ≤ _)⟩)
  dsimp only [Pt.U, Pt.locs, Pt.cells, Pt.slots] at X2 l2 y2 z2 st2 hQ2
  subst l2 y2 z2
  obtain ⟨rfl, N2q, e2⟩ := hQ2
  have N2 := Fr.app N0 N2q
  obtain ⟨fs, hr, hrun, hended, hW, hsame⟩ := X2.leave (v := some (.int (1 : Int32))) (fun h => by rw [Bd.returns] at h; cases h)
  refine ⟨_, _, pre0 _ ?_, hrun, hended, _, _, rfl, ?_, ⟨_, rfl⟩, hW, hsame.mono (by decide) (by decide)⟩
  · show Steps p.tables e below (s₁.setTop (mkF m 0 #[.val (.int p1), .val (.long q2), .second, .unset, .unset, .unset, .unset] [])) _
    refine XS.iloadN X0.here hx rfl (hb hby at_0) rfl ?_
    show Steps p.tables e below (s₁.setTop (mkF m 1 #[.val (.int p1), .val (.long q2), .second, .unset, .unset, .unset, .unset] [(.int p1)])) _
    refine XS.iconst X0.here hx rfl (hb hby at_1) ?_
    show Steps p.tables e below (s₁.setTop (mkF m 2 #[.val (.int p1), .val (.long q2), .second, .unset, .unset, .unset, .unset] [(.int (3 : Int32)), (.int p1)])) _
    refine XS.iand X0.here hx rfl (hb hby at_2) rfl ?_
    show Steps p.tables e below (s₁.setTop (mkF m 3 #[.val (.int p1), .val (.long q2), .second, .unset, .unset, .unset, .unset] [(.int (p1 &&& (3 : Int32)))])) _
    refine XS.istoreN X0.here hx rfl (hb hby at_3) rfl (l' := #[.val (.int p1), .val (.long q2), .second, .val (.int (p1 &&& (3 : Int32))), .unset, .unset, .unset]) rfl ?_
    show Steps p.tables e below (s₁.setTop (mkF m 4 #[.val (.int p1), .val (.long q2), .second, .val (.int (p1 &&& (3 : Int32))), .unset, .unset, .unset] [])) _
    refine XS.iloadN X0.here hx rfl (hb hby at_4) rfl ?_
    show Steps p.tables e below (s₁.setTop (mkF m 5 #[.val (.int p1), .val (.long q2), .second, .val (.int (p1 &&& (3 : Int32))), .unset, .unset, .unset] [(.int (p1 &&& (3 : Int32)))])) _
    refine XS.ifYes X0.here hx rfl (pc0 := 5) (pc' := 23) rfl (hb hby at_5) rfl ((if0 _ _).trans (feq hc5).2) (by decide) (by decide) ?_
    show Steps p.tables e below (s₁.setTop (mkF m 23 #[.val (.int p1), .val (.long q2), .second, .val (.int (p1 &&& (3 : Int32))), .unset, .unset, .unset] [])) _
    refine XS.iloadN X0.here hx rfl (hb hby at_23) rfl ?_
    show Steps p.tables e below (s₁.setTop (mkF m 24 #[.val (.int p1), .val (.long q2), .second, .val (.int (p1 &&& (3 : Int32))), .unset, .unset, .unset] [(.int (p1 &&& (3 : Int32)))])) _
    refine XS.iconst X0.here hx rfl (hb hby at_24) ?_
    show Steps p.tables e below (s₁.setTop (mkF m 25 #[.val (.int p1), .val (.long q2), .second, .val (.int (p1 &&& (3 : Int32))), .unset, .unset, .unset] [(.int (1 : Int32)), (.int (p1 &&& (3 : Int32)))])) _
    refine XS.icmpNo X0.here hx rfl (hb hby at_25) rfl (teq hc25).2 ?_
    show Steps p.tables e below (s₁.setTop (mkF m 28 #[.val (.int p1), .val (.long q2), .second, .val (.int (p1 &&& (3 : Int32))), .unset, .unset, .unset] [])) _
    refine st1 _ ?_
    show Steps p.tables e below (T1.setTop (mkF m 31 #[.val (.int p1), .val (.long q2), .second, .val (.int (p1 &&& (3 : Int32))), .unset, .unset, .unset] [(.ref w3)])) _
    refine XS.astore X1.here hx rfl (hb hby at_31) rfl rfl (l' := #[.val (.int p1), .val (.long q2), .second, .val (.int (p1 &&& (3 : Int32))), .val (.ref w3), .unset, .unset]) rfl ?_
    show Steps p.tables e below (T1.setTop (mkF m 33 #[.val (.int p1), .val (.long q2), .second, .val (.int (p1 &&& (3 : Int32))), .val (.ref w3), .unset, .unset] [])) _
    refine XS.lloadN X1.here hx rfl (hb hby at_33) rfl ?_
    show Steps p.tables e below (T1.setTop (mkF m 34 #[.val (.int p1), .val (.long q2), .second, .val (.int (p1 &&& (3 : Int32))), .val (.ref w3), .unset, .unset] [(.long q2)])) _
    refine X1.ldc2Long hx hown (mvT hZ (ow hw 13 rfl)) (g := (mkF m 34 #[.val (.int p1), .val (.long q2), .second, .val (.int (p1 &&& (3 : Int32))), .val (.ref w3), .unset, .unset] [(.long q2)])) rfl (hb hby at_34) _ ?_
    show Steps p.tables e below (T1.setTop (mkF m 37 #[.val (.int p1), .val (.long q2), .second, .val (.int (p1 &&& (3 : Int32))), .val (.ref w3), .unset, .unset] [(.long (65535 : Int64)), (.long q2)])) _
    refine XS.land X1.here hx rfl (hb hby at_37) rfl ?_
    show Steps p.tables e below (T1.setTop (mkF m 38 #[.val (.int p1), .val (.long q2), .second, .val (.int (p1 &&& (3 : Int32))), .val (.ref w3), .unset, .unset] [(.long (q2 &&& (65535 : Int64)))])) _
    refine XS.lstore X1.here hx rfl (hb hby at_38) rfl (l' := #[.val (.int p1), .val (.long q2), .second, .val (.int (p1 &&& (3 : Int32))), .val (.ref w3), .val (.long (q2 &&& (65535 : Int64))), .second]) rfl ?_
    show Steps p.tables e below (T1.setTop (mkF m 40 #[.val (.int p1), .val (.long q2), .second, .val (.int (p1 &&& (3 : Int32))), .val (.ref w3), .val (.long (q2 &&& (65535 : Int64))), .second] [])) _
    refine XS.goto X1.here hx rfl (pc0 := 40) (pc' := 71) rfl (hb hby at_40) (by decide) (by decide) ?_
    show Steps p.tables e below (T1.setTop (mkF m 71 #[.val (.int p1), .val (.long q2), .second, .val (.int (p1 &&& (3 : Int32))), .val (.ref w3), .val (.long (q2 &&& (65535 : Int64))), .second] [])) _
    refine XS.aload X1.here hx rfl (hb hby at_71) rfl rfl ?_
    show Steps p.tables e below (T1.setTop (mkF m 73 #[.val (.int p1), .val (.long q2), .second, .val (.int (p1 &&& (3 : Int32))), .val (.ref w3), .val (.long (q2 &&& (65535 : Int64))), .second] [(.ref w3)])) _
    refine XS.lloadN X1.here hx rfl (hb hby at_73) rfl ?_
    show Steps p.tables e below (T1.setTop (mkF m 74 #[.val (.int p1), .val (.long q2), .second, .val (.int (p1 &&& (3 : Int32))), .val (.ref w3), .val (.long (q2 &&& (65535 : Int64))), .second] [(.long q2), (.ref w3)])) _
    refine st2.trans ?_
    show Steps p.tables e below (T2.setTop (mkF m 77 #[.val (.int p1), .val (.long q2), .second, .val (.int (p1 &&& (3 : Int32))), .val (.ref w3), .val (.long (q2 &&& (65535 : Int64))), .second] [(.long (q2 &&& (((1 : Int64) <<< ((16 : Int32) &&& 0x3f).toInt64) - (1 : Int64))))])) _
    refine XS.lload X2.here hx rfl (hb hby at_77) rfl ?_
    show Steps p.tables e below (T2.setTop (mkF m 79 #[.val (.int p1), .val (.long q2), .second, .val (.int (p1 &&& (3 : Int32))), .val (.ref w3), .val (.long (q2 &&& (65535 : Int64))), .second] [(.long (q2 &&& (65535 : Int64))), (.long (q2 &&& (((1 : Int64) <<< ((16 : Int32) &&& 0x3f).toInt64) - (1 : Int64))))])) _
    refine XS.lcmp X2.here hx rfl (hb hby at_79) rfl ?_
    show Steps p.tables e below (T2.setTop (mkF m 80 #[.val (.int p1), .val (.long q2), .second, .val (.int (p1 &&& (3 : Int32))), .val (.ref w3), .val (.long (q2 &&& (65535 : Int64))), .second] [(.int (lcmpW (q2 &&& (((1 : Int64) <<< ((16 : Int32) &&& 0x3f).toInt64) - (1 : Int64))) (q2 &&& (65535 : Int64))))])) _
    refine XS.ifNo X2.here hx rfl (hb hby at_80) rfl ((if0 _ _).trans (teq ((lw_eq _ _).mpr ((by rw [own_m16]) : (q2 &&& (((1 : Int64) <<< ((16 : Int32) &&& 0x3f).toInt64) - (1 : Int64))) = (q2 &&& (65535 : Int64))))).2) ?_
    show Steps p.tables e below (T2.setTop (mkF m 83 #[.val (.int p1), .val (.long q2), .second, .val (.int (p1 &&& (3 : Int32))), .val (.ref w3), .val (.long (q2 &&& (65535 : Int64))), .second] [])) _
    refine XS.iconst X2.here hx rfl (hb hby at_83) ?_
    show Steps p.tables e below (T2.setTop (mkF m 84 #[.val (.int p1), .val (.long q2), .second, .val (.int (p1 &&& (3 : Int32))), .val (.ref w3), .val (.long (q2 &&& (65535 : Int64))), .second] [(.int (1 : Int32))])) _
    refine XS.goto X2.here hx rfl (pc0 := 84) (pc' := 88) rfl (hb hby at_84) (by decide) (by decide) ?_
    show Steps p.tables e below (T2.setTop (mkF m 88 #[.val (.int p1), .val (.long q2), .second, .val (.int (p1 &&& (3 : Int32))), .val (.ref w3), .val (.long (q2 &&& (65535 : Int64))), .second] [(.int (1 : Int32))])) _
    exact retN X2 hx (t := .boolean) Bd.returns (by simp) (hb hby at_88) hr
  · show QP (some (.int (1 : Int32))) h0 n0 _ T2.heap _
    rw [e2]
    exact ⟨rfl, N2, rfl⟩
set_option maxRecDepth 65536 in
set_option maxHeartbeats 40000000 in
theorem rm0c (l : Launch) (Z : State) (a0 : Array Value) (hw : ∀ d ∈ tables_1, d.before a0 Z = true) (ws : List Jvm.Cond) (p1 : Int32) (q2 : Int64) (w3 : Addr) (h0 : Heap) (n0 : Nat) (Z0 : n0 ≤ h0.size) (S : Sta Z h0 "com/example/unrest/unrest/model/Width" "I32" "Lcom/example/unrest/unrest/model/Width;" (.ref w3)) (EW : Exa Z h0 w3 "com/example/unrest/unrest/model/Width") (F : Fld Z h0 w3 "com/example/unrest/unrest/model/Width" "bits" "I" (.int (32 : Int32))) (hc5 : ¬ ((p1 &&& (3 : Int32)) = (0 : Int32))) (hc25 : ¬ ((p1 &&& (3 : Int32)) = (1 : Int32))) (hc45 : (p1 &&& (3 : Int32)) = (2 : Int32)) :
    MetFree l x (head1 (Jvm.Cond.code x code maxLocals ret :: ws) room_1) (fun a U => a = #[(.int p1), (.long q2)] ∧ Z.Warmed39 U.vm ∧ U.heap = h0) (fun _ _ _ _ _ => True) (fun _ U o U' => ∃ v L, o = .returned v ∧ QP (some (.int (1 : Int32))) h0 n0 v U'.heap L ∧ FrameEnd U o U' L room_1.cells room_1.slots) := by
  refine MetFree.of_bodySF (plainFor_of_name pn_com_example_unrest_unrest_model_WidthUnsignedPinLaw) hisR ?_
  intro p e s m args below meth c s₁ Bd hml0 hP hK
  obtain ⟨rfl, hZ, hh⟩ := hP
  have hx := Bd.exec
  have hby := Bd.bytes
  have hml : c.maxLocals = 7 := hml0
  have hown : s.vm.findClass "com/example/unrest/unrest/model/WidthUnsignedPinLaw" = some m.cls := findClass_of_methodNamed Bd.named
  have hnm := (name_of_methodNamed Bd.named Bd.method).1
  have X0 : Stand p l e room_1 s m #[(.int p1), (.long q2)] below meth c s₁ [] 0 0 := Stand.of_body Bd
  have e0 : s₁.heap = h0 := by rw [← hh, Bd.state]; rfl
  have N0 := Fr.nil n0
  have pre0 : ∀ t, Steps p.tables e below (s₁.setTop (mkF m 0 #[.val (.int p1), .val (.long q2), .second, .unset, .unset, .unset, .unset] [])) t → Steps p.tables e below (s₁.setTop (entryFrame m #[(.int p1), (.long q2)] maxLocals)) t := fun t k => castTop (ef_0 m p1 q2) k
  obtain ⟨T1, X1, e1, st1⟩ := getS2 X0 hx hZ hown (host := "") (Or.inl (ow hw 14 rfl)) Via.refl e0 S (g := (mkF m 48 #[.val (.int p1), .val (.long q2), .second, .val (.int (p1 &&& (3 : Int32))), .unset, .unset, .unset] [])) rfl (hb hby at_48)
  obtain ⟨cq2, kq2, q2a, q2b, q2c⟩ := isOf hZ e1 EW
  obtain ⟨_, _, ⟨T2, L2, k2, n2⟩, -, X2, ⟨Lc2, hQ2, l2, y2, z2⟩, st2⟩ := X1.virtualBack hx (y := nm_1) (z := nm_1) hown (mvT hZ (ow hw 4 rfl)) (mvT hZ (ow hw 5 rfl)) (notFace_of_selects (args := #[]) (mvT hZ (ow hw 7 rfl))) (mvT hZ (ow hw 7 rfl)) (mvT hZ (ow hw 6 rfl)) (by decide) (backOf (W := 0) (rm1t l Z a0 hw [] w3 q2 (32 : Int32) h0 n0 Z0 F (by decide)) hZ (ow hw 8 rfl) (ow hw 1 rfl) (by decide) (by decide)) q2a q2c (g := (mkF m 74 #[.val (.int p1), .val (.long q2), .second, .val (.int (p1 &&& (3 : Int32))), .val (.ref w3), .val (.long (q2 &&& (4294967295 : Int64))), .second] [(.long q2), (.ref w3)])) rfl (by rw [hml]; rfl) (Steps.refl _) (argsL := [(.long q2)]) (rest := []) (lenOf pd_0 rfl) rfl (by show 2 * 0 + _ ≤ _; exact Nat.le_of_eq rfl) (hb hby at_74) (fun _ _ => ⟨rfl, e1, (by decide : 0 + 0 ≤ _), (by decide : 0 + 0 ≤ _)⟩)
  dsimp only [Pt.U, Pt.locs, Pt.cells, Pt.slots] at X2 l2 y2 z2 st2 hQ2
  subst l2 y2 z2
  obtain ⟨rfl, N2q, e2⟩ := hQ2
  have N2 := Fr.app N0 N2q
  obtain ⟨fs, hr, hrun, hended, hW, hsame⟩ := X2.leave (v := some (.int (1 : Int32))) (fun h => by rw [Bd.returns] at h; cases h)
  refine ⟨_, _, pre0 _ ?_, hrun, hended, _, _, rfl, ?_, ⟨_, rfl⟩, hW, hsame.mono (by decide) (by decide)⟩
  · show Steps p.tables e below (s₁.setTop (mkF m 0 #[.val (.int p1), .val (.long q2), .second, .unset, .unset, .unset, .unset] [])) _
    refine XS.iloadN X0.here hx rfl (hb hby at_0) rfl ?_
    show Steps p.tables e below (s₁.setTop (mkF m 1 #[.val (.int p1), .val (.long q2), .second, .unset, .unset, .unset, .unset] [(.int p1)])) _
    refine XS.iconst X0.here hx rfl (hb hby at_1) ?_
    show Steps p.tables e below (s₁.setTop (mkF m 2 #[.val (.int p1), .val (.long q2), .second, .unset, .unset, .unset, .unset] [(.int (3 : Int32)), (.int p1)])) _
    refine XS.iand X0.here hx rfl (hb hby at_2) rfl ?_
    show Steps p.tables e below (s₁.setTop (mkF m 3 #[.val (.int p1), .val (.long q2), .second, .unset, .unset, .unset, .unset] [(.int (p1 &&& (3 : Int32)))])) _
    refine XS.istoreN X0.here hx rfl (hb hby at_3) rfl (l' := #[.val (.int p1), .val (.long q2), .second, .val (.int (p1 &&& (3 : Int32))), .unset, .unset, .unset]) rfl ?_
    show Steps p.tables e below (s₁.setTop (mkF m 4 #[.val (.int p1), .val (.long q2), .second, .val (.int (p1 &&& (3 : Int32))), .unset, .unset, .unset] [])) _
    refine XS.iloadN X0.here hx rfl (hb hby at_4) rfl ?_
    show Steps p.tables e below (s₁.setTop (mkF m 5 #[.val (.int p1), .val (.long q2), .second, .val (.int (p1 &&& (3 : Int32))), .unset, .unset, .unset] [(.int (p1 &&& (3 : Int32)))])) _
    refine XS.ifYes X0.here hx rfl (pc0 := 5) (pc' := 23) rfl (hb hby at_5) rfl ((if0 _ _).trans (feq hc5).2) (by decide) (by decide) ?_
    show Steps p.tables e below (s₁.setTop (mkF m 23 #[.val (.int p1), .val (.long q2), .second, .val (.int (p1 &&& (3 : Int32))), .unset, .unset, .unset] [])) _
    refine XS.iloadN X0.here hx rfl (hb hby at_23) rfl ?_
    show Steps p.tables e below (s₁.setTop (mkF m 24 #[.val (.int p1), .val (.long q2), .second, .val (.int (p1 &&& (3 : Int32))), .unset, .unset, .unset] [(.int (p1 &&& (3 : Int32)))])) _
    refine XS.iconst X0.here hx rfl (hb hby at_24) ?_
    show Steps p.tables e below (s₁.setTop (mkF m 25 #[.val (.int p1), .val (.long q2), .second, .val (.int (p1 &&& (3 : Int32))), .unset, .unset, .unset] [(.int (1 : Int32)), (.int (p1 &&& (3 : Int32)))])) _
    refine XS.icmpYes X0.here hx rfl (pc0 := 25) (pc' := 43) rfl (hb hby at_25) rfl (feq hc25).2 (by decide) (by decide) ?_
    show Steps p.tables e below (s₁.setTop (mkF m 43 #[.val (.int p1), .val (.long q2), .second, .val (.int (p1 &&& (3 : Int32))), .unset, .unset, .unset] [])) _
    refine XS.iloadN X0.here hx rfl (hb hby at_43) rfl ?_
    show Steps p.tables e below (s₁.setTop (mkF m 44 #[.val (.int p1), .val (.long q2), .second, .val (.int (p1 &&& (3 : Int32))), .unset, .unset, .unset] [(.int (p1 &&& (3 : Int32)))])) _
    refine XS.iconst X0.here hx rfl (hb hby at_44) ?_
    show Steps p.tables e below (s₁.setTop (mkF m 45 #[.val (.int p1), .val (.long q2), .second, .val (.int (p1 &&& (3 : Int32))), .unset, .unset, .unset] [(.int (2 : Int32)), (.int (p1 &&& (3 : Int32)))])) _
    refine XS.icmpNo X0.here hx rfl (hb hby at_45) rfl (teq hc45).2 ?_
    show Steps p.tables e below (s₁.setTop (mkF m 48 #[.val (.int p1), .val (.long q2), .second, .val (.int (p1 &&& (3 : Int32))), .unset, .unset, .unset] [])) _
    refine st1 _ ?_
    show Steps p.tables e below (T1.setTop (mkF m 51 #[.val (.int p1), .val (.long q2), .second, .val (.int (p1 &&& (3 : Int32))), .unset, .unset, .unset] [(.ref w3)])) _
    refine XS.astore X1.here hx rfl (hb hby at_51) rfl rfl (l' := #[.val (.int p1), .val (.long q2), .second, .val (.int (p1 &&& (3 : Int32))), .val (.ref w3), .unset, .unset]) rfl ?_
    show Steps p.tables e below (T1.setTop (mkF m 53 #[.val (.int p1), .val (.long q2), .second, .val (.int (p1 &&& (3 : Int32))), .val (.ref w3), .unset, .unset] [])) _
    refine XS.lloadN X1.here hx rfl (hb hby at_53) rfl ?_
    show Steps p.tables e below (T1.setTop (mkF m 54 #[.val (.int p1), .val (.long q2), .second, .val (.int (p1 &&& (3 : Int32))), .val (.ref w3), .unset, .unset] [(.long q2)])) _
    refine X1.ldc2Long hx hown (mvT hZ (ow hw 16 rfl)) (g := (mkF m 54 #[.val (.int p1), .val (.long q2), .second, .val (.int (p1 &&& (3 : Int32))), .val (.ref w3), .unset, .unset] [(.long q2)])) rfl (hb hby at_54) _ ?_
    show Steps p.tables e below (T1.setTop (mkF m 57 #[.val (.int p1), .val (.long q2), .second, .val (.int (p1 &&& (3 : Int32))), .val (.ref w3), .unset, .unset] [(.long (4294967295 : Int64)), (.long q2)])) _
    refine XS.land X1.here hx rfl (hb hby at_57) rfl ?_
    show Steps p.tables e below (T1.setTop (mkF m 58 #[.val (.int p1), .val (.long q2), .second, .val (.int (p1 &&& (3 : Int32))), .val (.ref w3), .unset, .unset] [(.long (q2 &&& (4294967295 : Int64)))])) _
    refine XS.lstore X1.here hx rfl (hb hby at_58) rfl (l' := #[.val (.int p1), .val (.long q2), .second, .val (.int (p1 &&& (3 : Int32))), .val (.ref w3), .val (.long (q2 &&& (4294967295 : Int64))), .second]) rfl ?_
    show Steps p.tables e below (T1.setTop (mkF m 60 #[.val (.int p1), .val (.long q2), .second, .val (.int (p1 &&& (3 : Int32))), .val (.ref w3), .val (.long (q2 &&& (4294967295 : Int64))), .second] [])) _
    refine XS.goto X1.here hx rfl (pc0 := 60) (pc' := 71) rfl (hb hby at_60) (by decide) (by decide) ?_
    show Steps p.tables e below (T1.setTop (mkF m 71 #[.val (.int p1), .val (.long q2), .second, .val (.int (p1 &&& (3 : Int32))), .val (.ref w3), .val (.long (q2 &&& (4294967295 : Int64))), .second] [])) _
    refine XS.aload X1.here hx rfl (hb hby at_71) rfl rfl ?_
    show Steps p.tables e below (T1.setTop (mkF m 73 #[.val (.int p1), .val (.long q2), .second, .val (.int (p1 &&& (3 : Int32))), .val (.ref w3), .val (.long (q2 &&& (4294967295 : Int64))), .second] [(.ref w3)])) _
    refine XS.lloadN X1.here hx rfl (hb hby at_73) rfl ?_
    show Steps p.tables e below (T1.setTop (mkF m 74 #[.val (.int p1), .val (.long q2), .second, .val (.int (p1 &&& (3 : Int32))), .val (.ref w3), .val (.long (q2 &&& (4294967295 : Int64))), .second] [(.long q2), (.ref w3)])) _
    refine st2.trans ?_
    show Steps p.tables e below (T2.setTop (mkF m 77 #[.val (.int p1), .val (.long q2), .second, .val (.int (p1 &&& (3 : Int32))), .val (.ref w3), .val (.long (q2 &&& (4294967295 : Int64))), .second] [(.long (q2 &&& (((1 : Int64) <<< ((32 : Int32) &&& 0x3f).toInt64) - (1 : Int64))))])) _
    refine XS.lload X2.here hx rfl (hb hby at_77) rfl ?_
    show Steps p.tables e below (T2.setTop (mkF m 79 #[.val (.int p1), .val (.long q2), .second, .val (.int (p1 &&& (3 : Int32))), .val (.ref w3), .val (.long (q2 &&& (4294967295 : Int64))), .second] [(.long (q2 &&& (4294967295 : Int64))), (.long (q2 &&& (((1 : Int64) <<< ((32 : Int32) &&& 0x3f).toInt64) - (1 : Int64))))])) _
    refine XS.lcmp X2.here hx rfl (hb hby at_79) rfl ?_
    show Steps p.tables e below (T2.setTop (mkF m 80 #[.val (.int p1), .val (.long q2), .second, .val (.int (p1 &&& (3 : Int32))), .val (.ref w3), .val (.long (q2 &&& (4294967295 : Int64))), .second] [(.int (lcmpW (q2 &&& (((1 : Int64) <<< ((32 : Int32) &&& 0x3f).toInt64) - (1 : Int64))) (q2 &&& (4294967295 : Int64))))])) _
    refine XS.ifNo X2.here hx rfl (hb hby at_80) rfl ((if0 _ _).trans (teq ((lw_eq _ _).mpr ((by rw [own_m32]) : (q2 &&& (((1 : Int64) <<< ((32 : Int32) &&& 0x3f).toInt64) - (1 : Int64))) = (q2 &&& (4294967295 : Int64))))).2) ?_
    show Steps p.tables e below (T2.setTop (mkF m 83 #[.val (.int p1), .val (.long q2), .second, .val (.int (p1 &&& (3 : Int32))), .val (.ref w3), .val (.long (q2 &&& (4294967295 : Int64))), .second] [])) _
    refine XS.iconst X2.here hx rfl (hb hby at_83) ?_
    show Steps p.tables e below (T2.setTop (mkF m 84 #[.val (.int p1), .val (.long q2), .second, .val (.int (p1 &&& (3 : Int32))), .val (.ref w3), .val (.long (q2 &&& (4294967295 : Int64))), .second] [(.int (1 : Int32))])) _
    refine XS.goto X2.here hx rfl (pc0 := 84) (pc' := 88) rfl (hb hby at_84) (by decide) (by decide) ?_
    show Steps p.tables e below (T2.setTop (mkF m 88 #[.val (.int p1), .val (.long q2), .second, .val (.int (p1 &&& (3 : Int32))), .val (.ref w3), .val (.long (q2 &&& (4294967295 : Int64))), .second] [(.int (1 : Int32))])) _
    exact retN X2 hx (t := .boolean) Bd.returns (by simp) (hb hby at_88) hr
  · show QP (some (.int (1 : Int32))) h0 n0 _ T2.heap _
    rw [e2]
    exact ⟨rfl, N2, rfl⟩
set_option maxRecDepth 65536 in
set_option maxHeartbeats 40000000 in
theorem rm0d (l : Launch) (Z : State) (a0 : Array Value) (hw : ∀ d ∈ tables_1, d.before a0 Z = true) (ws : List Jvm.Cond) (p1 : Int32) (q2 : Int64) (w3 : Addr) (h0 : Heap) (n0 : Nat) (Z0 : n0 ≤ h0.size) (S : Sta Z h0 "com/example/unrest/unrest/model/Width" "I64" "Lcom/example/unrest/unrest/model/Width;" (.ref w3)) (EW : Exa Z h0 w3 "com/example/unrest/unrest/model/Width") (F : Fld Z h0 w3 "com/example/unrest/unrest/model/Width" "bits" "I" (.int (64 : Int32))) (hc5 : ¬ ((p1 &&& (3 : Int32)) = (0 : Int32))) (hc25 : ¬ ((p1 &&& (3 : Int32)) = (1 : Int32))) (hc45 : ¬ ((p1 &&& (3 : Int32)) = (2 : Int32))) :
    MetFree l x (head1 (Jvm.Cond.code x code maxLocals ret :: ws) room_1) (fun a U => a = #[(.int p1), (.long q2)] ∧ Z.Warmed39 U.vm ∧ U.heap = h0) (fun _ _ _ _ _ => True) (fun _ U o U' => ∃ v L, o = .returned v ∧ QP (some (.int (1 : Int32))) h0 n0 v U'.heap L ∧ FrameEnd U o U' L room_1.cells room_1.slots) := by
  refine MetFree.of_bodySF (plainFor_of_name pn_com_example_unrest_unrest_model_WidthUnsignedPinLaw) hisR ?_
  intro p e s m args below meth c s₁ Bd hml0 hP hK
  obtain ⟨rfl, hZ, hh⟩ := hP
  have hx := Bd.exec
  have hby := Bd.bytes
  have hml : c.maxLocals = 7 := hml0
  have hown : s.vm.findClass "com/example/unrest/unrest/model/WidthUnsignedPinLaw" = some m.cls := findClass_of_methodNamed Bd.named
  have hnm := (name_of_methodNamed Bd.named Bd.method).1
  have X0 : Stand p l e room_1 s m #[(.int p1), (.long q2)] below meth c s₁ [] 0 0 := Stand.of_body Bd
  have e0 : s₁.heap = h0 := by rw [← hh, Bd.state]; rfl
  have N0 := Fr.nil n0
  have pre0 : ∀ t, Steps p.tables e below (s₁.setTop (mkF m 0 #[.val (.int p1), .val (.long q2), .second, .unset, .unset, .unset, .unset] [])) t → Steps p.tables e below (s₁.setTop (entryFrame m #[(.int p1), (.long q2)] maxLocals)) t := fun t k => castTop (ef_0 m p1 q2) k
  obtain ⟨T1, X1, e1, st1⟩ := getS2 X0 hx hZ hown (host := "") (Or.inl (ow hw 17 rfl)) Via.refl e0 S (g := (mkF m 63 #[.val (.int p1), .val (.long q2), .second, .val (.int (p1 &&& (3 : Int32))), .unset, .unset, .unset] [])) rfl (hb hby at_63)
  obtain ⟨cq2, kq2, q2a, q2b, q2c⟩ := isOf hZ e1 EW
  obtain ⟨_, _, ⟨T2, L2, k2, n2⟩, -, X2, ⟨Lc2, hQ2, l2, y2, z2⟩, st2⟩ := X1.virtualBack hx (y := nm_1) (z := nm_1) hown (mvT hZ (ow hw 4 rfl)) (mvT hZ (ow hw 5 rfl)) (notFace_of_selects (args := #[]) (mvT hZ (ow hw 7 rfl))) (mvT hZ (ow hw 7 rfl)) (mvT hZ (ow hw 6 rfl)) (by decide) (backOf (W := 0) (rm1f l Z a0 hw [] w3 q2 (64 : Int32) h0 n0 Z0 F (by decide)) hZ (ow hw 8 rfl) (ow hw 1 rfl) (by decide) (by decide)) q2a q2c (g := (mkF m 74 #[.val (.int p1), .val (.long q2), .second, .val (.int (p1 &&& (3 : Int32))), .val (.ref w3), .val (.long q2), .second] [(.long q2), (.ref w3)])) rfl (by rw [hml]; rfl) (Steps.refl _) (argsL := [(.long q2)]) (rest := []) (lenOf pd_0 rfl) rfl (by show 2 * 0 + _ ≤ _; exact Nat.le_of_eq rfl) (hb hby at_74) (fun _ _ => ⟨rfl, e1, (by decide : 0 + 0 ≤ _), (by decide : 0 + 0 ≤ _)⟩)
  dsimp only [Pt.U, Pt.locs, Pt.cells, Pt.slots] at X2 l2 y2 z2 st2 hQ2
  subst l2 y2 z2
  obtain ⟨rfl, N2q, e2⟩ := hQ2
  have N2 := Fr.app N0 N2q
  obtain ⟨fs, hr, hrun, hended, hW, hsame⟩ := X2.leave (v := some (.int (1 : Int32))) (fun h => by rw [Bd.returns] at h; cases h)
  refine ⟨_, _, pre0 _ ?_, hrun, hended, _, _, rfl, ?_, ⟨_, rfl⟩, hW, hsame.mono (by decide) (by decide)⟩
  · show Steps p.tables e below (s₁.setTop (mkF m 0 #[.val (.int p1), .val (.long q2), .second, .unset, .unset, .unset, .unset] [])) _
    refine XS.iloadN X0.here hx rfl (hb hby at_0) rfl ?_
    show Steps p.tables e below (s₁.setTop (mkF m 1 #[.val (.int p1), .val (.long q2), .second, .unset, .unset, .unset, .unset] [(.int p1)])) _
    refine XS.iconst X0.here hx rfl (hb hby at_1) ?_
    show Steps p.tables e below (s₁.setTop (mkF m 2 #[.val (.int p1), .val (.long q2), .second, .unset, .unset, .unset, .unset] [(.int (3 : Int32)), (.int p1)])) _
    refine XS.iand X0.here hx rfl (hb hby at_2) rfl ?_
    show Steps p.tables e below (s₁.setTop (mkF m 3 #[.val (.int p1), .val (.long q2), .second, .unset, .unset, .unset, .unset] [(.int (p1 &&& (3 : Int32)))])) _
    refine XS.istoreN X0.here hx rfl (hb hby at_3) rfl (l' := #[.val (.int p1), .val (.long q2), .second, .val (.int (p1 &&& (3 : Int32))), .unset, .unset, .unset]) rfl ?_
    show Steps p.tables e below (s₁.setTop (mkF m 4 #[.val (.int p1), .val (.long q2), .second, .val (.int (p1 &&& (3 : Int32))), .unset, .unset, .unset] [])) _
    refine XS.iloadN X0.here hx rfl (hb hby at_4) rfl ?_
    show Steps p.tables e below (s₁.setTop (mkF m 5 #[.val (.int p1), .val (.long q2), .second, .val (.int (p1 &&& (3 : Int32))), .unset, .unset, .unset] [(.int (p1 &&& (3 : Int32)))])) _
    refine XS.ifYes X0.here hx rfl (pc0 := 5) (pc' := 23) rfl (hb hby at_5) rfl ((if0 _ _).trans (feq hc5).2) (by decide) (by decide) ?_
    show Steps p.tables e below (s₁.setTop (mkF m 23 #[.val (.int p1), .val (.long q2), .second, .val (.int (p1 &&& (3 : Int32))), .unset, .unset, .unset] [])) _
    refine XS.iloadN X0.here hx rfl (hb hby at_23) rfl ?_
    show Steps p.tables e below (s₁.setTop (mkF m 24 #[.val (.int p1), .val (.long q2), .second, .val (.int (p1 &&& (3 : Int32))), .unset, .unset, .unset] [(.int (p1 &&& (3 : Int32)))])) _
    refine XS.iconst X0.here hx rfl (hb hby at_24) ?_
    show Steps p.tables e below (s₁.setTop (mkF m 25 #[.val (.int p1), .val (.long q2), .second, .val (.int (p1 &&& (3 : Int32))), .unset, .unset, .unset] [(.int (1 : Int32)), (.int (p1 &&& (3 : Int32)))])) _
    refine XS.icmpYes X0.here hx rfl (pc0 := 25) (pc' := 43) rfl (hb hby at_25) rfl (feq hc25).2 (by decide) (by decide) ?_
    show Steps p.tables e below (s₁.setTop (mkF m 43 #[.val (.int p1), .val (.long q2), .second, .val (.int (p1 &&& (3 : Int32))), .unset, .unset, .unset] [])) _
    refine XS.iloadN X0.here hx rfl (hb hby at_43) rfl ?_
    show Steps p.tables e below (s₁.setTop (mkF m 44 #[.val (.int p1), .val (.long q2), .second, .val (.int (p1 &&& (3 : Int32))), .unset, .unset, .unset] [(.int (p1 &&& (3 : Int32)))])) _
    refine XS.iconst X0.here hx rfl (hb hby at_44) ?_
    show Steps p.tables e below (s₁.setTop (mkF m 45 #[.val (.int p1), .val (.long q2), .second, .val (.int (p1 &&& (3 : Int32))), .unset, .unset, .unset] [(.int (2 : Int32)), (.int (p1 &&& (3 : Int32)))])) _
    refine XS.icmpYes X0.here hx rfl (pc0 := 45) (pc' := 63) rfl (hb hby at_45) rfl (feq hc45).2 (by decide) (by decide) ?_
    show Steps p.tables e below (s₁.setTop (mkF m 63 #[.val (.int p1), .val (.long q2), .second, .val (.int (p1 &&& (3 : Int32))), .unset, .unset, .unset] [])) _
    refine st1 _ ?_
    show Steps p.tables e below (T1.setTop (mkF m 66 #[.val (.int p1), .val (.long q2), .second, .val (.int (p1 &&& (3 : Int32))), .unset, .unset, .unset] [(.ref w3)])) _
    refine XS.astore X1.here hx rfl (hb hby at_66) rfl rfl (l' := #[.val (.int p1), .val (.long q2), .second, .val (.int (p1 &&& (3 : Int32))), .val (.ref w3), .unset, .unset]) rfl ?_
    show Steps p.tables e below (T1.setTop (mkF m 68 #[.val (.int p1), .val (.long q2), .second, .val (.int (p1 &&& (3 : Int32))), .val (.ref w3), .unset, .unset] [])) _
    refine XS.lloadN X1.here hx rfl (hb hby at_68) rfl ?_
    show Steps p.tables e below (T1.setTop (mkF m 69 #[.val (.int p1), .val (.long q2), .second, .val (.int (p1 &&& (3 : Int32))), .val (.ref w3), .unset, .unset] [(.long q2)])) _
    refine XS.lstore X1.here hx rfl (hb hby at_69) rfl (l' := #[.val (.int p1), .val (.long q2), .second, .val (.int (p1 &&& (3 : Int32))), .val (.ref w3), .val (.long q2), .second]) rfl ?_
    show Steps p.tables e below (T1.setTop (mkF m 71 #[.val (.int p1), .val (.long q2), .second, .val (.int (p1 &&& (3 : Int32))), .val (.ref w3), .val (.long q2), .second] [])) _
    refine XS.aload X1.here hx rfl (hb hby at_71) rfl rfl ?_
    show Steps p.tables e below (T1.setTop (mkF m 73 #[.val (.int p1), .val (.long q2), .second, .val (.int (p1 &&& (3 : Int32))), .val (.ref w3), .val (.long q2), .second] [(.ref w3)])) _
    refine XS.lloadN X1.here hx rfl (hb hby at_73) rfl ?_
    show Steps p.tables e below (T1.setTop (mkF m 74 #[.val (.int p1), .val (.long q2), .second, .val (.int (p1 &&& (3 : Int32))), .val (.ref w3), .val (.long q2), .second] [(.long q2), (.ref w3)])) _
    refine st2.trans ?_
    show Steps p.tables e below (T2.setTop (mkF m 77 #[.val (.int p1), .val (.long q2), .second, .val (.int (p1 &&& (3 : Int32))), .val (.ref w3), .val (.long q2), .second] [(.long q2)])) _
    refine XS.lload X2.here hx rfl (hb hby at_77) rfl ?_
    show Steps p.tables e below (T2.setTop (mkF m 79 #[.val (.int p1), .val (.long q2), .second, .val (.int (p1 &&& (3 : Int32))), .val (.ref w3), .val (.long q2), .second] [(.long q2), (.long q2)])) _
    refine XS.lcmp X2.here hx rfl (hb hby at_79) rfl ?_
    show Steps p.tables e below (T2.setTop (mkF m 80 #[.val (.int p1), .val (.long q2), .second, .val (.int (p1 &&& (3 : Int32))), .val (.ref w3), .val (.long q2), .second] [(.int (lcmpW q2 q2))])) _
    refine XS.ifNo X2.here hx rfl (hb hby at_80) rfl ((if0 _ _).trans (teq ((lw_eq _ _).mpr (rfl : q2 = q2))).2) ?_
    show Steps p.tables e below (T2.setTop (mkF m 83 #[.val (.int p1), .val (.long q2), .second, .val (.int (p1 &&& (3 : Int32))), .val (.ref w3), .val (.long q2), .second] [])) _
    refine XS.iconst X2.here hx rfl (hb hby at_83) ?_
    show Steps p.tables e below (T2.setTop (mkF m 84 #[.val (.int p1), .val (.long q2), .second, .val (.int (p1 &&& (3 : Int32))), .val (.ref w3), .val (.long q2), .second] [(.int (1 : Int32))])) _
    refine XS.goto X2.here hx rfl (pc0 := 84) (pc' := 88) rfl (hb hby at_84) (by decide) (by decide) ?_
    show Steps p.tables e below (T2.setTop (mkF m 88 #[.val (.int p1), .val (.long q2), .second, .val (.int (p1 &&& (3 : Int32))), .val (.ref w3), .val (.long q2), .second] [(.int (1 : Int32))])) _
    exact retN X2 hx (t := .boolean) Bd.returns (by simp) (hb hby at_88) hr
  · show QP (some (.int (1 : Int32))) h0 n0 _ T2.heap _
    rw [e2]
    exact ⟨rfl, N2, rfl⟩
theorem own_and3 (p : Int32) : (p &&& 3) = 0 ∨ (p &&& 3) = 1 ∨ (p &&& 3) = 2 ∨ (p &&& 3) = 3 := by
  have h : (p &&& (3 : Int32)).toInt = p.toInt % 2 ^ 2 := Jvm.Kit.i32_mask p 3 (k := 2) (by decide) (by decide)
  have h2 : p.toInt % 2 ^ 2 = 0 ∨ p.toInt % 2 ^ 2 = 1 ∨ p.toInt % 2 ^ 2 = 2 ∨ p.toInt % 2 ^ 2 = 3 := by omega
  rcases h2 with q | q | q | q <;> rw [q] at h
  · exact Or.inl (Int32.toInt_inj.mp h)
  · exact Or.inr (Or.inl (Int32.toInt_inj.mp h))
  · exact Or.inr (Or.inr (Or.inl (Int32.toInt_inj.mp h)))
  · exact Or.inr (Or.inr (Or.inr (Int32.toInt_inj.mp h)))
set_option maxRecDepth 65536 in
set_option maxHeartbeats 40000000 in
theorem comes_1 {Post : Tables → Env → Array Value → State → Outcome → State → Prop} (hpost : ∀ tb e args s v u, (limb_1_1.after args s (.returned v) u = true ∧ limb_1_2.after args s (.returned v) u = true ∧ True) → FrameEnd s (.returned v) u (Jvm.fieldLocs frame_1_writes args s ++ Jvm.arrayLocs frame_1_arrays args s ++ Jvm.staticLocs frame_1_statics s) 0 0 → Post tb e args s (.returned v) u) :
    ArmFor flags0 classFile x code maxLocals ret World_1 tables_1 room_1 Calls_1 rest_1 Pre_1 Post := by
  intro l hfl _ _ p e ha hc hk s m args below hf hA hF happ hP
  obtain ⟨hcalls, hrest, hpre⟩ := hP
  obtain ⟨-, -, -, hnamed, -, -, -, hat⟩ := (Spec.applies_iff hf).mp happ
  obtain ⟨hg, hn⟩ := and_e (Cond.before_iff.mp (show (Jvm.Cond.and given_1 narrow_1).before args s = true from hpre))
  obtain ⟨hcount, hk0⟩ := and_e hg
  obtain ⟨ha0, hk1⟩ := and_e hk0
  have ha1 := hk1
  obtain ⟨w0, w1, rfl⟩ : ∃ w0 w1 : Value, args = #[w0, w1] := by
    have hs : args.size = 2 := by simpa [Cond.value, given_1] using hcount
    obtain ⟨L⟩ := args
    match L, hs with
    | [w0, w1], _ => exact ⟨w0, w1, rfl⟩
  obtain ⟨i0, ei0⟩ := is_v ha0
  obtain rfl : w0 = (.int i0) := Option.some.inj ei0
  obtain ⟨i1, ei1⟩ := isL_v ha1
  obtain rfl : w1 = (.long i1) := Option.some.inj ei1
  have hw := fun d (hd : d ∈ tables_1) => atoms_spec (ws := Jvm.Cond.code x code maxLocals ret :: tables_1) hat d (List.mem_cons_of_mem _ hd)
  obtain ⟨hn_0, hm_0⟩ := and_e hn
  obtain ⟨A_Width_I8, ev_Width_I8⟩ := exa_v hn_0
  have E_Width_I8 := Exa.start ev_Width_I8 hn_0
  have S_Width_I8 := Sta.start ev_Width_I8 (Or.inr ⟨(hw _ (List.mem_of_getElem? (i := 1) rfl)), (hw _ (List.mem_of_getElem? (i := 2) rfl))⟩)
  obtain ⟨hn_1, hm_1⟩ := and_e hm_0
  obtain ⟨hn_2, hm_2⟩ := and_e hm_1
  obtain ⟨A_Width_I16, ev_Width_I16⟩ := exa_v hn_2
  have E_Width_I16 := Exa.start ev_Width_I16 hn_2
  have S_Width_I16 := Sta.start ev_Width_I16 (Or.inr ⟨(hw _ (List.mem_of_getElem? (i := 1) rfl)), (hw _ (List.mem_of_getElem? (i := 12) rfl))⟩)
  obtain ⟨hn_3, hm_3⟩ := and_e hm_2
  obtain ⟨hn_4, hm_4⟩ := and_e hm_3
  obtain ⟨A_Width_I32, ev_Width_I32⟩ := exa_v hn_4
  have E_Width_I32 := Exa.start ev_Width_I32 hn_4
  have S_Width_I32 := Sta.start ev_Width_I32 (Or.inr ⟨(hw _ (List.mem_of_getElem? (i := 1) rfl)), (hw _ (List.mem_of_getElem? (i := 15) rfl))⟩)
  obtain ⟨hn_5, hm_5⟩ := and_e hm_4
  obtain ⟨hn_6, hm_6⟩ := and_e hm_5
  obtain ⟨A_Width_I64, ev_Width_I64⟩ := exa_v hn_6
  have E_Width_I64 := Exa.start ev_Width_I64 hn_6
  have S_Width_I64 := Sta.start ev_Width_I64 (Or.inr ⟨(hw _ (List.mem_of_getElem? (i := 1) rfl)), (hw _ (List.mem_of_getElem? (i := 18) rfl))⟩)
  have F_Width_I8_bits := own_fldI ev_Width_I8 hn_1
  have F_Width_I16_bits := own_fldI ev_Width_I16 hn_3
  have F_Width_I32_bits := own_fldI ev_Width_I32 hn_5
  have F_Width_I64_bits := own_fldI ev_Width_I64 hm_6
  have hmain : MetFree l x (head1 (Jvm.Cond.code x code maxLocals ret :: tables_1) room_1) (fun a U => a = #[(.int i0), (.long i1)] ∧ s.Warmed39 U.vm ∧ U.heap = s.heap) (fun _ _ _ _ _ => True) (fun _ U o U' => ∃ v L, o = .returned v ∧ QP (some (.int (1 : Int32))) s.heap s.heap.size v U'.heap L ∧ FrameEnd U o U' L room_1.cells room_1.slots) := by
    rcases own_and3 i0 with q | q | q | q
    · exact rm0a l s _ hw tables_1 i0 i1 A_Width_I8 s.heap s.heap.size (Nat.le_refl _) S_Width_I8 E_Width_I8 F_Width_I8_bits q
    · exact rm0b l s _ hw tables_1 i0 i1 A_Width_I16 s.heap s.heap.size (Nat.le_refl _) S_Width_I16 E_Width_I16 F_Width_I16_bits (by rw [q]; decide) q
    · exact rm0c l s _ hw tables_1 i0 i1 A_Width_I32 s.heap s.heap.size (Nat.le_refl _) S_Width_I32 E_Width_I32 F_Width_I32_bits (by rw [q]; decide) (by rw [q]; decide) q
    · exact rm0d l s _ hw tables_1 i0 i1 A_Width_I64 s.heap s.heap.size (Nat.le_refl _) S_Width_I64 E_Width_I64 F_Width_I64_bits (by rw [q]; decide) (by rw [q]; decide) (by rw [q]; decide)
  obtain ⟨n, o, h1, h2, h3, _, L, rfl, ⟨rfl, N, -⟩, hq⟩ := hmain p e ha hc hk s m _ below hf ((Spec.applies_iff_loose hf).mp happ).1 ⟨rfl, State.Warmed39.refl s, rfl⟩ trivial
  refine ⟨n, _, h1, h2, h3, hpost _ _ _ _ _ _ ⟨Cond.after_iff.mpr rfl, Cond.after_iff.mpr (eq_i res_at (Term.int_eval (1)) rfl), trivial⟩ ⟨hq.1, hq.2.1, (hq.2.2.sift fun y hy => Or.inr (N y hy)).mono (by decide) (by decide)⟩⟩
theorem main_1_1 : Claimed_1_1 := comes_1 fun _ _ _ _ _ _ h hF => ⟨h.1, hF⟩
theorem main_1_2 : Claimed_1_2 := comes_1 fun _ _ _ _ _ _ h hF => ⟨h.2.1, hF⟩
end Jvm.Pilot.@@N@@
namespace Jvm.Pilot.@@N@@
open Jvm Jvm.ClassFile Sem Op Lib Jvm.Free Jvm.Stand Jvm.Pilot.@@N@@.Jvm.D
/-! MADE BY PROGRAM (witnessworld.py) out of the Statement's table words and the real class files: 12 classes; the members and pool entries that the words name. The judged class is class 1, her method 1. -/
namespace start1
open Jvm.ClassFile
def u (s : String) : CpInfo := .utf8 (stringToUtf16 s)
/-- a pool by its gaps: so many unusable entries, then the entry; so many at the end -/
def gap : Nat → List CpInfo → List CpInfo
  | 0, r => r
  | n + 1, r => .unusable :: gap n r
def poolList (es : List (Nat × CpInfo)) (last : Nat) : List CpInfo := es.foldr (fun e r => gap e.1 (e.2 :: r)) (gap last [])
def pool (es : List (Nat × CpInfo)) (last : Nat) : Array CpInfo := ⟨poolList es last⟩
def fileOf (pool : Array CpInfo) (this : Nat) (attrs : Array Attribute := #[]) (ms : Array MethodInfo := #[]) (fl : Nat := 33) (sup : Nat := 0) (ifs : Array Nat := #[]) (fds : Array FieldInfo := #[]) : ClassFile where
  minorVersion := 0
  majorVersion := 65
  constantPool := pool
  accessFlags := fl
  thisClass := this
  superClass := sup
  interfaces := ifs
  fields := fds
  methods := ms
  attributes := attrs
def plain (name : String) (sup : Option ClassId) : Class where
  name := name
  kind := .ordinary
  loader := none
  accessFlags := 33
  super := sup
  interfaces := #[]
  cf := none
  fields := #[]
  methods := #[]
  instanceTypes := #[]
  staticTypes := #[]
  resolved := #[]
  callSites := []
  init := .initialized
  statics := none
  mirror := none

def pool0 : Array CpInfo := pool [(5, u "<init>"), (0, u "()V"), (1, .class_ 10), (1, u "java/lang/Object")] 113

def k0m0 : Method := { name := "<init>", desc := "()V", sig := { parameters := [], returnType := none }, accessFlags := 1, code := none }
/-- java/lang/Object -/
def k0 : Class := { plain "java/lang/Object" none with
  accessFlags := 33
  interfaces := #[]
  cf := some (fileOf pool0 8 #[] #[{ accessFlags := 1, nameIndex := 5, descriptorIndex := 6, attributes := #[] }] 33 0 #[] #[])
  fields := #[]
  methods := #[k0m0]
  instanceTypes := #[]
  staticTypes := #[]
  resolved := Array.replicate 124 none
  statics := none }

def pool1 : Array CpInfo := pool [(2, .class_ 4), (1, u "java/lang/Object"), (0, u "<init>"), (0, u "()V"), (0, .fieldref 8 9), (0, .class_ 10), (0, .nameAndType 11 12), (0, u "com/example/unrest/unrest/model/Width"), (0, u "I8"), (0, u "Lcom/example/unrest/unrest/model/Width;"), (0, .long 255), (1, .fieldref 8 16), (0, .nameAndType 17 12), (0, u "I16"), (0, .long 65535), (1, .fieldref 8 21), (0, .nameAndType 22 12), (0, u "I32"), (0, .long 4294967295), (1, .fieldref 8 26), (0, .nameAndType 27 12), (0, u "I64"), (0, .methodref 8 29), (0, .nameAndType 30 31), (0, u "unsigned"), (0, u "(J)J"), (0, .class_ 33), (0, u "com/example/unrest/unrest/model/WidthUnsignedPinLaw"), (2, u "law"), (0, u "(IJ)Z")] 3

def k1m0 : Method := { name := "<init>", desc := "()V", sig := { parameters := [], returnType := none }, accessFlags := 1, code := none }
def k1c1 : Code := { maxStack := 4, maxLocals := 7, code := code, exceptionTable := #[], attributes := #[] }
def k1m1 : Method := { name := "law", desc := "(IJ)Z", sig := { parameters := [.int, .long], returnType := some .boolean }, accessFlags := 9, code := some k1c1 }
/-- com/example/unrest/unrest/model/WidthUnsignedPinLaw -/
def k1 : Class := { plain "com/example/unrest/unrest/model/WidthUnsignedPinLaw" (some 0) with
  accessFlags := 49
  interfaces := #[]
  cf := some (fileOf pool1 32 #[] #[{ accessFlags := 1, nameIndex := 5, descriptorIndex := 6, attributes := #[] }, { accessFlags := 9, nameIndex := 36, descriptorIndex := 37, attributes := #[] }] 49 2 #[] #[])
  fields := #[]
  methods := #[k1m0, k1m1]
  instanceTypes := #[]
  staticTypes := #[]
  resolved := Array.replicate 41 none
  statics := none }

def pool2 : Array CpInfo := pool [(1, .class_ 2), (0, u "java/lang/constant/Constable"), (0, .class_ 4), (0, u "java/lang/Object")] 6

/-- java/lang/constant/Constable -/
def k2 : Class := { plain "java/lang/constant/Constable" (some 0) with
  accessFlags := 1537
  interfaces := #[]
  cf := some (fileOf pool2 1 #[] #[] 1537 3 #[] #[])
  fields := #[]
  methods := #[]
  instanceTypes := #[]
  staticTypes := #[]
  resolved := Array.replicate 11 none
  statics := none }

def pool3 : Array CpInfo := pool [(1, .class_ 2), (0, u "java/lang/Comparable"), (0, .class_ 4), (0, u "java/lang/Object")] 7

/-- java/lang/Comparable -/
def k3 : Class := { plain "java/lang/Comparable" (some 0) with
  accessFlags := 1537
  interfaces := #[]
  cf := some (fileOf pool3 1 #[] #[] 1537 3 #[] #[])
  fields := #[]
  methods := #[]
  instanceTypes := #[]
  staticTypes := #[]
  resolved := Array.replicate 12 none
  statics := none }

def pool4 : Array CpInfo := pool [(1, .class_ 2), (0, u "java/io/Serializable"), (0, .class_ 4), (0, u "java/lang/Object")] 2

/-- java/io/Serializable -/
def k4 : Class := { plain "java/io/Serializable" (some 0) with
  accessFlags := 1537
  interfaces := #[]
  cf := some (fileOf pool4 1 #[] #[] 1537 3 #[] #[])
  fields := #[]
  methods := #[]
  instanceTypes := #[]
  staticTypes := #[]
  resolved := Array.replicate 7 none
  statics := none }

def pool5 : Array CpInfo := pool [(2, .class_ 4), (1, u "java/lang/Enum"), (0, u "name"), (0, u "Ljava/lang/String;"), (2, u "ordinal"), (0, u "I"), (1, .class_ 14), (1, u "java/lang/Object"), (4, u "hash"), (86, .class_ 108), (1, u "java/lang/Enum$EnumDesc"), (2, .class_ 112), (0, u "java/lang/constant/Constable"), (0, .class_ 114), (0, u "java/lang/Comparable"), (0, .class_ 116), (0, u "java/io/Serializable")] 87

/-- java/lang/Enum -/
def k5 : Class := { plain "java/lang/Enum" (some 0) with
  accessFlags := 1057
  interfaces := #[2, 3, 4]
  cf := some (fileOf pool5 2 #[.nestMembers #[106]] #[] 1057 12 #[111, 113, 115] #[{ accessFlags := 18, nameIndex := 5, descriptorIndex := 6, attributes := #[] }, { accessFlags := 18, nameIndex := 9, descriptorIndex := 10, attributes := #[] }, { accessFlags := 2, nameIndex := 19, descriptorIndex := 10, attributes := #[] }])
  fields := #[{ name := "name", type := (.object "java/lang/String"), accessFlags := 18, slot := 0, constantValue := 0 }, { name := "ordinal", type := .int, accessFlags := 18, slot := 1, constantValue := 0 }, { name := "hash", type := .int, accessFlags := 2, slot := 2, constantValue := 0 }]
  methods := #[]
  instanceTypes := #[(.object "java/lang/String"), .int, .int]
  staticTypes := #[]
  resolved := Array.replicate 204 none
  statics := none }

def pool6 : Array CpInfo := pool [(1, .class_ 2), (0, u "com/example/unrest/unrest/model/Width"), (2, u "I8"), (0, u "Lcom/example/unrest/unrest/model/Width;"), (2, u "I16"), (2, u "I32"), (2, u "I64"), (2, u "$VALUES"), (0, u "[Lcom/example/unrest/unrest/model/Width;"), (6, .class_ 28), (1, u "java/lang/Enum"), (6, .fieldref 1 36), (0, .nameAndType 37 38), (0, u "bits"), (0, u "I"), (24, u "(J)J"), (0, u "unsigned")] 8

def k6c0 : Code := { maxStack := 6, maxLocals := 3, code := prog_268_method_6_code, exceptionTable := #[], attributes := #[] }
def k6m0 : Method := { name := "unsigned", desc := "(J)J", sig := { parameters := [.long], returnType := some .long }, accessFlags := 1, code := some k6c0 }
/-- com/example/unrest/unrest/model/Width -/
def k6 : Class := { plain "com/example/unrest/unrest/model/Width" (some 5) with
  accessFlags := 16433
  interfaces := #[]
  cf := some (fileOf pool6 1 #[] #[{ accessFlags := 1, nameIndex := 64, descriptorIndex := 63, attributes := #[] }] 16433 26 #[] #[{ accessFlags := 16409, nameIndex := 5, descriptorIndex := 6, attributes := #[] }, { accessFlags := 16409, nameIndex := 9, descriptorIndex := 6, attributes := #[] }, { accessFlags := 16409, nameIndex := 12, descriptorIndex := 6, attributes := #[] }, { accessFlags := 16409, nameIndex := 15, descriptorIndex := 6, attributes := #[] }, { accessFlags := 18, nameIndex := 37, descriptorIndex := 38, attributes := #[] }, { accessFlags := 4122, nameIndex := 18, descriptorIndex := 19, attributes := #[] }])
  fields := #[{ name := "I8", type := (.object "com/example/unrest/unrest/model/Width"), accessFlags := 16409, slot := 0, constantValue := 0 }, { name := "I16", type := (.object "com/example/unrest/unrest/model/Width"), accessFlags := 16409, slot := 1, constantValue := 0 }, { name := "I32", type := (.object "com/example/unrest/unrest/model/Width"), accessFlags := 16409, slot := 2, constantValue := 0 }, { name := "I64", type := (.object "com/example/unrest/unrest/model/Width"), accessFlags := 16409, slot := 3, constantValue := 0 }, { name := "bits", type := .int, accessFlags := 18, slot := 3, constantValue := 0 }, { name := "$VALUES", type := (.array (.object "com/example/unrest/unrest/model/Width")), accessFlags := 4122, slot := 4, constantValue := 0 }]
  methods := #[k6m0]
  instanceTypes := #[(.object "java/lang/String"), .int, .int, .int]
  staticTypes := #[(.object "com/example/unrest/unrest/model/Width"), (.object "com/example/unrest/unrest/model/Width"), (.object "com/example/unrest/unrest/model/Width"), (.object "com/example/unrest/unrest/model/Width"), (.array (.object "com/example/unrest/unrest/model/Width"))]
  resolved := Array.replicate 73 none
  statics := some 0 }

def pool7 : Array CpInfo := pool [(1, u "java/lang/Cloneable"), (0, .class_ 1), (0, u "java/lang/Object"), (0, .class_ 3)] 3

/-- java/lang/Cloneable -/
def k7 : Class := { plain "java/lang/Cloneable" (some 0) with
  accessFlags := 1537
  interfaces := #[]
  cf := some (fileOf pool7 2 #[] #[] 1537 4 #[] #[])
  fields := #[]
  methods := #[]
  instanceTypes := #[]
  staticTypes := #[]
  resolved := Array.replicate 8 none
  statics := none }

/-- the primitive byte -/
def k8 : Class := { plain "byte" none with kind := .primitive 'B', accessFlags := 0x411 }
/-- [B -/
def k9 : Class := { plain "[B" (some 0) with kind := .array 8 .byte, interfaces := #[7, 4], accessFlags := 1041 }

/-- the primitive int -/
def k10 : Class := { plain "int" none with kind := .primitive 'I', accessFlags := 0x411 }
/-- [I -/
def k11 : Class := { plain "[I" (some 0) with kind := .array 10 .int, interfaces := #[7, 4], accessFlags := 1041 }

def heap : Heap := #[{ cls := 6, slots := #[.ref 1, .ref 2, .ref 3, .ref 4, .null], vm := .statics 6 },
  { cls := 6, slots := #[.null, .int 0, .int 0, .int 8], vm := .none },
  { cls := 6, slots := #[.null, .int 1, .int 0, .int 16], vm := .none },
  { cls := 6, slots := #[.null, .int 2, .int 0, .int 32], vm := .none },
  { cls := 6, slots := #[.null, .int 3, .int 0, .int 64], vm := .none }]
def classes : Array Class := #[k0, k1, k2, k3, k4, k5, k6, k7, k8, k9, k10, k11]
def interned : List (Array UInt16 × Addr) := []
def slotsUsed : Nat := 21
def theMethod : MethodId := ⟨1, 1⟩
def args0 : Array Value := #[.int 1, .long 5]
def aboutOver (below : List Frame) : State where
  vm := { classes := classes, interned := interned.toArray }
  heap := heap
  slotsUsed := slotsUsed
  threads := #[{ frames := .invoking theMethod args0 :: below }]
def below0 : List Frame := [.native { method := ⟨0, 0⟩, args := #[] }]
def about1 : State := aboutOver below0
def p0 : Program := .bare "" "" ""
def e0 : Env := launch0.env 0 0 0
theorem w_frames : about1.frames = Frame.invoking theMethod args0 :: below0 := rfl
set_option maxRecDepth 65536 in
theorem w_args : argsFit about1.vm theMethod args0 = true := by decide +kernel
set_option maxRecDepth 65536 in
theorem w_heap : heapFits about1 = true := by decide +kernel
set_option maxRecDepth 65536 in
theorem w_runnable : about1.curStatus? = some .runnable := by decide +kernel
set_option maxRecDepth 65536 in
theorem w_alone : about1.alone = true := by decide +kernel
set_option maxRecDepth 65536 in
theorem w_named : about1.methodNamed? x = some theMethod := by decide +kernel
set_option maxRecDepth 65536 in
theorem w_hears : about1.hears theMethod below0 = true := by decide +kernel
set_option maxRecDepth 65536 in
theorem w_ripe : about1.ripe theMethod args0 below0 = true := by decide +kernel
theorem w_running : about1.status = .running := rfl
set_option maxRecDepth 65536 in
theorem w_room : about1.hasRoom e0.platform room_1 = true :=
  launch0.hasRoom_least _ room_1 (by decide +kernel) (by decide +kernel) (by decide +kernel) (by decide +kernel) (by decide +kernel) (by decide +kernel)
theorem allAtoms_all (ts : List Jvm.Cond) (a : Array Jvm.Value) (st : Jvm.State) : (allAtoms ts).before a st = ts.all (fun c => c.before a st) := by
  induction ts with
  | nil => rfl
  | cons c t ih =>
    show (Jvm.Cond.and c (allAtoms t)).before a st = _
    rw [Jvm.Cond.before_and, ih, List.all_cons]
def words1 : List Jvm.Cond := Jvm.Cond.code x code maxLocals ret :: tables_1
/-- a 'code' word, met by the world's own term for the bytes: nothing is compared byte by byte -/
theorem code_word {y : MethodName} {bytes : ByteArray} {mx : Nat} {rt : Option FieldType} {a : Array Value} {s : State} {m : MethodId} {meth : Method} {c : Code} (h1 : s.methodNamed? y = some m) (h2 : s.vm.method? m = some meth) (h3 : meth.code = some c) (h4 : c.code = bytes)
    (h5 : (c.maxLocals == mx && c.exceptionTable.isEmpty && decide (c.maxStack ≤ mostOperands) && decide (meth.sig.returnType = rt) && !meth.locks && decide (parseMethodDescriptor y.desc = some meth.sig)) = true) : (Jvm.Cond.code y bytes mx rt).before a s = true := by
  simp only [Bool.and_eq_true, beq_iff_eq, Bool.not_eq_true', decide_eq_true_eq] at h5
  obtain ⟨⟨⟨⟨⟨g1, g2⟩, g3⟩, g4⟩, g5⟩, g6⟩ := h5
  simp [Cond.before, Cond.holds, Cond.value, h1, h2, h3, h4, g1, g2, g3, g4, g5, g6]
def isCode : Jvm.Cond → Bool
  | .code _ _ _ _ => true
  | _ => false
theorem all_split {L : List Jvm.Cond} {P : Jvm.Cond → Bool} (h1 : L.all (fun c => isCode c || P c) = true) (h2 : ∀ c ∈ L.filter isCode, P c = true) : L.all P = true := by
  refine List.all_eq_true.mpr fun c hc => ?_
  have h := List.all_eq_true.mp h1 c hc
  rcases Bool.eq_false_or_eq_true (isCode c) with hi | hi
  · exact h2 c (List.mem_filter.mpr ⟨hc, hi⟩)
  · simpa [hi] using h
set_option maxRecDepth 65536 in
theorem w_c0 : (Jvm.Cond.code x code maxLocals ret).before args0 about1 = true := code_word (m := ⟨1, 1⟩) (meth := k1m1) (c := k1c1) (by decide +kernel) rfl rfl rfl (by decide +kernel)
set_option maxRecDepth 65536 in
theorem w_c1 : (Jvm.Cond.code ({ cls := "com/example/unrest/unrest/model/Width", name := "unsigned", desc := "(J)J" } : Jvm.MethodName) prog_268_method_6_code (3 : Nat) (Option.some Jvm.ClassFile.FieldType.long)).before args0 about1 = true := code_word (m := ⟨6, 0⟩) (meth := k6m0) (c := k6c0) (by decide +kernel) rfl rfl rfl (by decide +kernel)
def codes1 : List Jvm.Cond := [Jvm.Cond.code x code maxLocals ret, Jvm.Cond.code ({ cls := "com/example/unrest/unrest/model/Width", name := "unsigned", desc := "(J)J" } : Jvm.MethodName) prog_268_method_6_code (3 : Nat) (Option.some Jvm.ClassFile.FieldType.long)]
set_option maxRecDepth 65536 in
theorem codes_eq : words1.filter isCode = codes1 := rfl
theorem w_codes : ∀ c ∈ words1.filter isCode, c.before args0 about1 = true := by
  rw [codes_eq]
  intro c hc
  simp only [codes1, List.mem_cons, List.not_mem_nil, or_false] at hc
  rcases hc with rfl | rfl
  · exact w_c0
  · exact w_c1
set_option maxRecDepth 65536 in
theorem w_t1 : words1.all (fun c => isCode c || c.before args0 about1) = true := by decide +kernel
theorem w_tables : (allAtoms (Jvm.Cond.code x code maxLocals ret :: tables_1)).before args0 about1 = true := by
  rw [allAtoms_all]
  show words1.all (fun c => c.before args0 about1) = true
  refine all_split ?_ w_codes
  rw [w_t1]
set_option maxRecDepth 65536 in
theorem w_case : (Jvm.Cond.and given_1 narrow_1).before args0 about1 = true := by decide +kernel
theorem w_applies : (headSpec (Jvm.Cond.code x code maxLocals ret :: tables_1) room_1).applies x e0.platform about1 = true :=
  (Spec.applies_iff w_frames).mpr ⟨w_running, w_runnable, w_alone, w_named, w_hears, w_ripe, w_room, w_tables⟩
theorem atStart : AtStart classFile x code maxLocals ret World_1 tables_1 room_1 Calls_1 rest_1 Pre_1 launch0 p0 e0 about1 theMethod args0 below0 :=
  ⟨lists_1, trivial, launch0.admits_env _ _ _, launch0.least_env, fairChoices_fair.cas, fairChoices_fair.clock, w_frames, w_args, w_heap, w_applies, trivial, trivial, w_case⟩
end start1
theorem witness_1 : WitnessClaimed_1 := ⟨start1.p0, start1.e0, start1.about1, start1.theMethod, start1.args0, start1.below0, start1.atStart⟩
end Jvm.Pilot.@@N@@
