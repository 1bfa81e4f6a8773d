import JvmDerived
import JvmDerived.Pilot.@@N@@Statement
import JvmDerived.Pilot.@@N@@Code
set_option linter.unusedVariables false
set_option linter.unusedSimpArgs false
namespace Jvm.RoadKit
open Sem ClassFile Op Lib Jvm.Stand Jvm.Free Jvm.LawKit
section New
variable {p : Program} {l : Launch} {e : Env} {R : Room} {s : State} {m : MethodId} {args : Array Value} {below : List Frame} {meth : Method} {c : Code} {T : State} {locs : List Loc} {cells slots : Nat}
theorem retI (X : Stand p l e R s m args below meth c T locs cells slots) (hx : p.tables.exec = Jvm.exec) {pc : Nat} {Ls : Array Slot} {z : Int32} {rest : List Value} (hret : meth.sig.returnType = some .int) (hd : decode c.code pc = .ok (.ireturn, 1)) {fs : List Frame}
    (hl : ∀ (f : JFrame) (acts : List Action), f.method = m → f.locked = none → f.entered = [] → (doReturn e (T.setTop f) acts (some (.int z))).1 = T.setFrames fs) : Steps p.tables e below (T.setTop (mkF m pc Ls (.int z :: rest))) (T.setFrames fs) := by
  have hm' : T.vm.method? m = some meth := X.method'
  have hn : narrow .int (.int z) = .int z := rfl
  show Steps p.tables e below (T.setTop { method := m, pc := pc, locals := Ls, stack := _ :: rest, locked := none }) _
  jvm_step X.here [X.here.top, hx, hd, hm', hret, hn]
  first | (intro acts; rw [hl _ acts rfl rfl rfl]) | rw [hl _ _ rfl rfl rfl]
  exact Steps.refl _
end New
end Jvm.RoadKit
namespace Jvm.Pilot.@@N@@
open Jvm Jvm.ClassFile Sem Op Lib Jvm.Free Jvm.Stand Jvm.LawKit Jvm.RoadKit Bundle Jvm.Pilot.@@N@@.Jvm.D
theorem ow {a0 : Array Value} {Z : State} (hw : ∀ d ∈ tables_1, d.before a0 Z = true) (i : Nat) {d : Jvm.Cond} (h : tables_1[i]? = some d) : d.before a0 Z = true := hw _ (List.mem_of_getElem? h)
abbrev rr0 : Room := { frames := 0, cells := 0, slots := 0, locals := 0 }
/-- a body that writes nothing and makes nothing: it returns r, the heap as it was -/
def QP (r : Option Value) (h0 : Heap) (n0 : Nat) (v : Option Value) (h : Heap) (L : List Loc) : Prop := v = r ∧ Fr n0 L ∧ h = h0
theorem own_fldI {Z : State} {args : Array Value} {t : Term} {C n d : String} {a : Addr} {k : Int32} (ev : t.eval args Z none [] Z = some (.ref a)) (h : (Jvm.Cond.eq (Term.field t C n d) (Term.int k)).value args Z none Z [] = some true) : Fld Z Z.heap a C n d (.int k) := by
  obtain ⟨x, y, e1, e2, k1, k2⟩ := cmp_v (Or.inl h)
  rw [Term.int_eval] at e2
  cases e2
  obtain ⟨z, rfl⟩ := k2
  have e3 : z = k := by simpa [Cond.value, e1, Term.int_eval] using h
  subst e3
  exact Fld.start ((fld_at ev).symm.trans e1)
theorem own_ne {Z : State} {h : Heap} {a b : Addr} {C n d : String} {v w : Value} (F : Fld Z h a C n d v) (G : Fld Z h b C n d w) (hn : v ≠ w) : ¬ (a = b) := by
  rintro rfl
  obtain ⟨c1, _, _, _, f1, h1, h2, -, -, -, -, h7⟩ := F
  obtain ⟨c2, _, _, _, f2, g1, g2, -, -, -, -, g7⟩ := G
  cases h1.symm.trans g1
  cases h2.symm.trans g2
  exact hn (Option.some.inj (h7.symm.trans g7))
theorem own_selP {s : State} {args args' args'' : Array Value} {y : MethodName} {n : Nat} (hi : (Jvm.Cond.instantiable y.cls n).before args s = true) (hp : (Jvm.Cond.privateMethod y).before args' s = true) (hinst : (Jvm.Cond.instanceMethod y).before args'' s = true) (hy : y.cls ≠ "java/lang/invoke/MethodHandle" ∧ y.cls ≠ "java/lang/invoke/VarHandle") : (Jvm.Cond.selects y.cls y y).before args'' s = true := by
  obtain ⟨c, k, h1, h2, -, h4, -⟩ := Cond.instantiable_spec hi
  exact selects_self_of_private h1 h2 (by simp only [Bool.or_eq_false_iff] at h4; exact h4.1) (Cond.privateMethod_at hp) hinst hy
theorem own_cat {v : Value} (h : v.isRef = true) : v.category = 1 := by cases v <;> simp [Value.isRef] at h <;> rfl
theorem own_nar (t : FieldType) {v : Value} (h : v.isRef = true) : narrow t v = v := by cases v <;> simp [Value.isRef] at h <;> cases t <;> rfl
theorem own_fit (K : String) {v : Value} (h : v.isRef = true) : fits (.object K) v = true := by cases v <;> simp [Value.isRef] at h <;> rfl
theorem own_store {l l' : Array Slot} {i : Nat} {v : Value} {o : Slot} (hold : l[i]? = some o) (ho : o = .unset ∨ ∃ w, o = .val w ∧ w.category = 1) (hv : v.category = 1) (e : l.setIfInBounds i (.val v) = l') : storeLocals l i v = some l' := e ▸ XS.store1 hold ho hv
/-- a Pending as it stands -/
def PdAt (Z : State) (h : Heap) (pq : Addr) (fx fs : Int64) (jr sn : Value) : Prop := Exa Z h pq "com/example/keyed_work_queue/keyedworkqueue/Pending" ∧ Fld Z h pq "com/example/keyed_work_queue/keyedworkqueue/Pending" "floorXact" "J" (.long fx) ∧ Fld Z h pq "com/example/keyed_work_queue/keyedworkqueue/Pending" "floorSeq" "J" (.long fs) ∧ Fld Z h pq "com/example/keyed_work_queue/keyedworkqueue/Pending" "joinedIn" "Ljava/lang/Long;" jr ∧ Fld Z h pq "com/example/keyed_work_queue/keyedworkqueue/Pending" "seen" "Z" sn
/-- a body that writes the Pending pq alone -/
def QRF (Z : State) (pq : Addr) (fx fs : Int64) (jr sn : Value) (h0 : Heap) (n0 : Nat) (v : Option Value) (h : Heap) (L : List Loc) : Prop := v = none ∧ Fr n0 L ∧ Keep h0 h [pq] ∧ PdAt Z h pq fx fs jr sn
/-- a Long, or null -/
def LR (Z : State) (h : Heap) (r : Value) (o : Option Int64) : Prop := (o = none ∧ r = .null) ∨ ∃ a v, o = some v ∧ r = .ref a ∧ Exa Z h a "java/lang/Long" ∧ Fld Z h a "java/lang/Long" "value" "J" (.long v)
def LR2 (Z : State) (h : Heap) (r1 r2 : Value) (o : Option (Int64 × Int64)) : Prop := (o = none ∧ r1 = .null ∧ r2 = .null) ∨ ∃ a b x sq, o = some (x, sq) ∧ r1 = .ref a ∧ r2 = .ref b ∧ Exa Z h a "java/lang/Long" ∧ Fld Z h a "java/lang/Long" "value" "J" (.long x) ∧ Exa Z h b "java/lang/Long" ∧ Fld Z h b "java/lang/Long" "value" "J" (.long sq)
def own_cand (old : Int64) (o : Option (Int64 × Int64)) : Int64 × Int64 := match o with | none => (old, (-9223372036854775808 : Int64)) | some c => if c.1 < old then c else (old, (-9223372036854775808 : Int64))
def own_raise (f c : Int64 × Int64) : Int64 × Int64 := if f.1 < c.1 ∨ (c.1 = f.1 ∧ f.2 < c.2) then c else f
def QV (Z : State) (q : Int64) (h0 : Heap) (n0 : Nat) (v : Option Value) (h : Heap) (L : List Loc) : Prop := ∃ a, v = some (.ref a) ∧ Fr n0 L ∧ Ext h0 h ∧ Exa Z h a "java/lang/Long" ∧ Fld Z h a "java/lang/Long" "value" "J" (.long q)
def QL (Z : State) (a : Addr) (q : Int64) (h0 : Heap) (n0 : Nat) (v : Option Value) (h : Heap) (L : List Loc) : Prop := v = none ∧ Fr n0 L ∧ Keep h0 h [a] ∧ Exa Z h a "java/lang/Long" ∧ Fld Z h a "java/lang/Long" "value" "J" (.long q)
def LCache (Z : State) (b : Addr) : Prop := ∃ cl : Cell, Arr Z Z.heap b cl (.object "java/lang/Long") ∧ cl.slots.size = 256 ∧ ∀ i : Nat, i < 256 → ∃ a, cl.slots[i]? = some (.ref a) ∧ Exa Z Z.heap a "java/lang/Long" ∧ Fld Z Z.heap a "java/lang/Long" "value" "J" (.long (Int64.ofInt ((i : Int) - 128)))
theorem own_idx (q : Int64) (h1 : ¬ q < (-128 : Int64)) (h2 : ¬ (127 : Int64) < q) : ¬ (q.toInt32 + (128 : Int32) < 0) ∧ (q.toInt32 + (128 : Int32)).toNatClampNeg = (q.toInt + 128).toNat ∧ (q.toInt + 128).toNat < 256 ∧ Int64.ofInt (((q.toInt + 128).toNat : Int) - 128) = q := by
  rw [Int64.lt_iff_toInt_lt] at h1 h2
  have e1 : (-128 : Int64).toInt = -128 := by decide
  have e2 : (127 : Int64).toInt = 127 := by decide
  rw [e1] at h1
  rw [e2] at h2
  have a1 := c_l2i q
  have a2 := rng32 q.toInt32
  have a3 : q.toInt32.toInt = q.toInt := by omega
  have a4 := c_iadd q.toInt32 128
  have e3 : (128 : Int32).toInt = 128 := by decide
  have a5 := rng32 (q.toInt32 + 128)
  have a6 : (q.toInt32 + 128).toInt = q.toInt + 128 := by omega
  refine ⟨?_, ?_, by omega, ?_⟩
  · rw [Int32.lt_iff_toInt_lt, a6]
    have e4 : (0 : Int32).toInt = 0 := by decide
    omega
  · show (q.toInt32 + 128).toInt.toNat = _
    rw [a6]
  · have a7 : (((q.toInt + 128).toNat : Int) - 128) = q.toInt := by omega
    rw [a7]
    exact Int64.ofInt_toInt q
abbrev rr_1_0_0_12 : Room := { frames := 1, cells := 0, slots := 0, locals := 12 }
theorem d1_0 : decode prog_27_method_1_code 0 = .ok (.aload_n 0, 1) := by decide +kernel
theorem d1_1 : decode prog_27_method_1_code 1 = .ok (.invokespecial 1, 3) := by decide +kernel
theorem d1_4 : decode prog_27_method_1_code 4 = .ok (.aload_n 0, 1) := by decide +kernel
theorem d1_5 : decode prog_27_method_1_code 5 = .ok (.ldc2_w 9, 3) := by decide +kernel
theorem d1_8 : decode prog_27_method_1_code 8 = .ok (.putfield 11, 3) := by decide +kernel
theorem d1_11 : decode prog_27_method_1_code 11 = .ok (.aload_n 0, 1) := by decide +kernel
theorem d1_12 : decode prog_27_method_1_code 12 = .ok (.ldc2_w 9, 3) := by decide +kernel
theorem d1_15 : decode prog_27_method_1_code 15 = .ok (.putfield 17, 3) := by decide +kernel
theorem d1_18 : decode prog_27_method_1_code 18 = .ok (.aload_n 0, 1) := by decide +kernel
theorem d1_19 : decode prog_27_method_1_code 19 = .ok (.iconst 1, 1) := by decide +kernel
theorem d1_20 : decode prog_27_method_1_code 20 = .ok (.putfield 20, 3) := by decide +kernel
theorem d1_23 : decode prog_27_method_1_code 23 = .ok (.return_, 1) := by decide +kernel
theorem pn_com_example_keyed_work_queue_keyedworkqueue_Pending : plainName "com/example/keyed_work_queue/keyedworkqueue/Pending" = true := by first | (simp [plainName, overriddenIn]; done) | decide +kernel
theorem ef_1 (m : MethodId) (x0 : Addr) : entryFrame m #[(.ref x0)] 1 = mkF m 0 #[.val (.ref x0)] [] := by first | (simp [entryFrame, mkF, argsToLocals, Value.category]; done) | rfl
abbrev nm_1 : MethodName := ⟨"com/example/keyed_work_queue/keyedworkqueue/Pending", "<init>", "()V"⟩
set_option maxRecDepth 65536 in
set_option maxHeartbeats 40000000 in
theorem rm1 (l : Launch) (Z : State) (a0 : Array Value) (hw : ∀ d ∈ tables_1, d.before a0 Z = true) (ws : List Jvm.Cond) (a1 : Addr) (h0 : Heap) (n0 : Nat) (Z0 : n0 ≤ h0.size) (g0_a1 : n0 ≤ a1) (PA : PdAt Z h0 a1 (0 : Int64) (0 : Int64) .null (.int (0 : Int32))) :
    MetFree l nm_1 (head1 (Jvm.Cond.code nm_1 prog_27_method_1_code 1 none :: ws) rr_1_0_0_12) (fun aa zU => aa = #[(.ref a1)] ∧ Z.Warmed39 zU.vm ∧ zU.heap = h0) (fun _ _ _ _ _ => True) (fun _ zU zo zU' => ∃ zv zL, zo = .returned zv ∧ QRF Z a1 (-9223372036854775808 : Int64) (-9223372036854775808 : Int64) .null (.int (1 : Int32)) h0 n0 zv zU'.heap zL ∧ FrameEnd zU zo zU' zL rr_1_0_0_12.cells rr_1_0_0_12.slots) := by
  refine MetFree.of_bodySF (plainFor_of_name pn_com_example_keyed_work_queue_keyedworkqueue_Pending) hisR ?_
  intro p e s m args below meth c s₁ Bd hml0 hP hK
  obtain ⟨rfl, hZ, hh⟩ := hP
  have hx := Bd.exec
  have hby := Bd.bytes
  have hml : c.maxLocals = 1 := hml0
  have hown : s.vm.findClass "com/example/keyed_work_queue/keyedworkqueue/Pending" = some m.cls := findClass_of_methodNamed Bd.named
  have hnm := (name_of_methodNamed Bd.named Bd.method).1
  have X0 : Stand p l e rr_1_0_0_12 s m #[(.ref a1)] below meth c s₁ [] 0 0 := Stand.of_body Bd
  have e0 : s₁.heap = h0 := by rw [← hh, Bd.state]; rfl
  have N0 := Fr.nil n0
  have pre0 : ∀ t, Steps p.tables e below (s₁.setTop (mkF m 0 #[.val (.ref a1)] [])) t → Steps p.tables e below (s₁.setTop (entryFrame m #[(.ref a1)] 1)) t := fun t k => castTop (ef_1 m a1) k
  obtain ⟨Epd1, Fapd1, Fbpd1, Fcpd1, Fdpd1⟩ := PA
  obtain ⟨T2, X2, e2, st2⟩ := initO X0 hx hZ hown (ow hw 6 rfl) (ow hw 7 rfl) (ow hw 8 rfl) e0 (g := (mkF m 1 #[.val (.ref a1)] [(.ref a1)])) rfl (by rw [hml]; rfl) rfl (hb hby d1_1) (by decide) (W := 0) (by show 2 * 0 + _ ≤ _; exact Nat.le_of_eq rfl) (by decide)
  obtain ⟨T3, h3, X3, e3, W3, st3⟩ := putF X2 hx hZ hown (host := "") (Or.inl (ow hw 10 rfl)) Via.refl e2 Fapd1 Epd1 (Or.inl (ow hw 11 rfl)) (ow hw 1 rfl) (ty := .long) (by decide) rfl rfl (g := (mkF m 8 #[.val (.ref a1)] [(.long (-9223372036854775808 : Int64)), (.ref a1)])) rfl rfl (hb hby d1_8)
  have Fw3 := Fapd1.same W3
  have N3 := Fr.snoc X3 N0 g0_a1
  have c5 := Fbpd1.other W3 (Or.inr (slot_ne (Or.inl (ow hw 13 rfl)) (Or.inl (ow hw 11 rfl)) (by decide) (t := .long) (t' := .long) (by decide) (by decide)))
  have c6 := Epd1.wr W3
  obtain ⟨T4, h4, X4, e4, W4, st4⟩ := putF X3 hx hZ hown (host := "") (Or.inl (ow hw 12 rfl)) Via.refl e3 c5 c6 (Or.inl (ow hw 13 rfl)) (ow hw 1 rfl) (ty := .long) (by decide) rfl rfl (g := (mkF m 15 #[.val (.ref a1)] [(.long (-9223372036854775808 : Int64)), (.ref a1)])) rfl rfl (hb hby d1_15)
  have Fw4 := c5.same W4
  have N4 := Fr.snoc X4 N3 g0_a1
  have c8 := Fdpd1.other W3 (Or.inr (slot_ne (Or.inl (ow hw 15 rfl)) (Or.inl (ow hw 11 rfl)) (by decide) (t := .boolean) (t' := .long) (by decide) (by decide)))
  have c9 := c8.other W4 (Or.inr (slot_ne (Or.inl (ow hw 15 rfl)) (Or.inl (ow hw 13 rfl)) (by decide) (t := .boolean) (t' := .long) (by decide) (by decide)))
  have c10 := c6.wr W4
  obtain ⟨T7, h7, X7, e7, W7, st7⟩ := putFN X4 hx hZ hown (ow hw 14 rfl) Via.refl e4 c9 c10 (Or.inl (ow hw 15 rfl)) (ow hw 1 rfl) (ty := .boolean) (v' := (.int (1 : Int32))) (by decide) rfl rfl (g := (mkF m 20 #[.val (.ref a1)] [(.int (1 : Int32)), (.ref a1)])) rfl rfl (hb hby d1_20)
  have Fw7 := c9.same W7
  have N7 := Fr.snoc X7 N4 g0_a1
  have kp11 : Keep h0 h7 [a1] := ((((Keep.refl h0 [a1]).wr W3 (Or.inl (List.mem_of_getElem? (i := 0) rfl))).wr W4 (Or.inl (List.mem_of_getElem? (i := 0) rfl))).wr W7 (Or.inl (List.mem_of_getElem? (i := 0) rfl)))
  have c12 := c10.wr W7
  have c13 := Fw3.other W4 (Or.inr (slot_ne (Or.inl (ow hw 11 rfl)) (Or.inl (ow hw 13 rfl)) (by decide) (t := .long) (t' := .long) (by decide) (by decide)))
  have c14 := c13.other W7 (Or.inr (slot_ne (Or.inl (ow hw 11 rfl)) (Or.inl (ow hw 15 rfl)) (by decide) (t := .long) (t' := .boolean) (by decide) (by decide)))
  have c15 := Fw4.other W7 (Or.inr (slot_ne (Or.inl (ow hw 13 rfl)) (Or.inl (ow hw 15 rfl)) (by decide) (t := .long) (t' := .boolean) (by decide) (by decide)))
  have c16 := Fcpd1.other W3 (Or.inr (slot_ne (Or.inl (ow hw 52 rfl)) (Or.inl (ow hw 11 rfl)) (by decide) (t := (.object "java/lang/Long")) (t' := .long) (by decide) (by decide)))
  have c17 := c16.other W4 (Or.inr (slot_ne (Or.inl (ow hw 52 rfl)) (Or.inl (ow hw 13 rfl)) (by decide) (t := (.object "java/lang/Long")) (t' := .long) (by decide) (by decide)))
  have c18 := c17.other W7 (Or.inr (slot_ne (Or.inl (ow hw 52 rfl)) (Or.inl (ow hw 15 rfl)) (by decide) (t := (.object "java/lang/Long")) (t' := .boolean) (by decide) (by decide)))
  obtain ⟨fsq, hr, hrun, hended, hW, hsame⟩ := X7.leave (v := none) (fun _ => rfl)
  refine ⟨_, _, pre0 _ ?_, hrun, hended, _, _, rfl, ?_, ⟨_, rfl⟩, hW, hsame.mono (by decide) (by decide)⟩
  · show Steps p.tables e below (s₁.setTop (mkF m 0 #[.val (.ref a1)] [])) _
    refine XS.aloadN X0.here hx rfl (hb hby d1_0) rfl rfl ?_
    refine st2 _ ?_
    refine XS.aloadN X2.here hx rfl (hb hby d1_4) rfl rfl ?_
    refine X2.ldc2Long hx hown (mvT hZ (ow hw 9 rfl)) (g := (mkF m 5 #[.val (.ref a1)] [(.ref a1)])) rfl (hb hby d1_5) _ ?_
    refine st3 _ ?_
    refine XS.aloadN X3.here hx rfl (hb hby d1_11) rfl rfl ?_
    refine X3.ldc2Long hx hown (mvT hZ (ow hw 9 rfl)) (g := (mkF m 12 #[.val (.ref a1)] [(.ref a1)])) rfl (hb hby d1_12) _ ?_
    refine st4 _ ?_
    refine XS.aloadN X4.here hx rfl (hb hby d1_18) rfl rfl ?_
    show Steps p.tables e below (T4.setTop (mkF m 19 #[.val (.ref a1)] [(.ref a1)])) _
    refine XS.iconst X4.here hx rfl (hb hby d1_19) ?_
    refine st7 _ ?_
    show Steps p.tables e below (T7.setTop (mkF m 23 #[.val (.ref a1)] [])) _
    exact X7.returnOut hx Bd.returns (hb hby d1_23) hr
  · show QRF Z a1 (-9223372036854775808 : Int64) (-9223372036854775808 : Int64) .null (.int (1 : Int32)) h0 n0 _ T7.heap _
    rw [e7]
    exact ⟨rfl, N7, kp11, ⟨c12, c14, c15, c18, Fw7⟩⟩
theorem d6_0 : decode jdk_18_method_1_code 0 = .ok (.aload_n 0, 1) := by decide +kernel
theorem d6_1 : decode jdk_18_method_1_code 1 = .ok (.invokespecial 1, 3) := by decide +kernel
theorem d6_4 : decode jdk_18_method_1_code 4 = .ok (.return_, 1) := by decide +kernel
theorem pn_java_lang_Number : plainName "java/lang/Number" = true := by first | (simp [plainName, overriddenIn]; done) | decide +kernel
theorem ef_6 (m : MethodId) (x0 : Addr) : entryFrame m #[(.ref x0)] 1 = mkF m 0 #[.val (.ref x0)] [] := by first | (simp [entryFrame, mkF, argsToLocals, Value.category]; done) | rfl
abbrev nm_6 : MethodName := ⟨"java/lang/Number", "<init>", "()V"⟩
set_option maxRecDepth 65536 in
set_option maxHeartbeats 40000000 in
theorem rm6 (l : Launch) (Z : State) (a0 : Array Value) (hw : ∀ d ∈ tables_1, d.before a0 Z = true) (ws : List Jvm.Cond) (a1 : Addr) (h0 : Heap) (n0 : Nat) (Z0 : n0 ≤ h0.size) :
    MetFree l nm_6 (head1 (Jvm.Cond.code nm_6 jdk_18_method_1_code 1 none :: ws) rr_1_0_0_12) (fun aa zU => aa = #[(.ref a1)] ∧ Z.Warmed39 zU.vm ∧ zU.heap = h0) (fun _ _ _ _ _ => True) (fun _ zU zo zU' => ∃ zv zL, zo = .returned zv ∧ QP none h0 n0 zv zU'.heap zL ∧ FrameEnd zU zo zU' zL rr_1_0_0_12.cells rr_1_0_0_12.slots) := by
  refine MetFree.of_bodySF (plainFor_of_name pn_java_lang_Number) hisR ?_
  intro p e s m args below meth c s₁ Bd hml0 hP hK
  obtain ⟨rfl, hZ, hh⟩ := hP
  have hx := Bd.exec
  have hby := Bd.bytes
  have hml : c.maxLocals = 1 := hml0
  have hown : s.vm.findClass "java/lang/Number" = some m.cls := findClass_of_methodNamed Bd.named
  have hnm := (name_of_methodNamed Bd.named Bd.method).1
  have X0 : Stand p l e rr_1_0_0_12 s m #[(.ref a1)] below meth c s₁ [] 0 0 := Stand.of_body Bd
  have e0 : s₁.heap = h0 := by rw [← hh, Bd.state]; rfl
  have N0 := Fr.nil n0
  have pre0 : ∀ t, Steps p.tables e below (s₁.setTop (mkF m 0 #[.val (.ref a1)] [])) t → Steps p.tables e below (s₁.setTop (entryFrame m #[(.ref a1)] 1)) t := fun t k => castTop (ef_6 m a1) k
  obtain ⟨T1, X1, e1, st1⟩ := initO X0 hx hZ hown (ow hw 43 rfl) (ow hw 7 rfl) (ow hw 8 rfl) e0 (g := (mkF m 1 #[.val (.ref a1)] [(.ref a1)])) rfl (by rw [hml]; rfl) rfl (hb hby d6_1) (by decide) (W := 0) (by show 2 * 0 + _ ≤ _; exact Nat.le_of_eq rfl) (by decide)
  obtain ⟨fsq, hr, hrun, hended, hW, hsame⟩ := X1.leave (v := none) (fun _ => rfl)
  refine ⟨_, _, pre0 _ ?_, hrun, hended, _, _, rfl, ?_, ⟨_, rfl⟩, hW, hsame.mono (by decide) (by decide)⟩
  · show Steps p.tables e below (s₁.setTop (mkF m 0 #[.val (.ref a1)] [])) _
    refine XS.aloadN X0.here hx rfl (hb hby d6_0) rfl rfl ?_
    refine st1 _ ?_
    show Steps p.tables e below (T1.setTop (mkF m 4 #[.val (.ref a1)] [])) _
    exact X1.returnOut hx Bd.returns (hb hby d6_4) hr
  · show QP none h0 n0 _ T1.heap _
    rw [e1]
    exact ⟨rfl, N0, rfl⟩
abbrev rr_2_0_0_24 : Room := { frames := 2, cells := 0, slots := 0, locals := 24 }
theorem d5_0 : decode jdk_35_method_26_code 0 = .ok (.aload_n 0, 1) := by decide +kernel
theorem pd_0 : parseMethodDescriptor "()V" = some ⟨[], none⟩ := by decide +kernel
theorem d5_1 : decode jdk_35_method_26_code 1 = .ok (.invokespecial 270, 3) := by decide +kernel
theorem d5_4 : decode jdk_35_method_26_code 4 = .ok (.aload_n 0, 1) := by decide +kernel
theorem d5_5 : decode jdk_35_method_26_code 5 = .ok (.lload_n 1, 1) := by decide +kernel
theorem d5_6 : decode jdk_35_method_26_code 6 = .ok (.putfield 273, 3) := by decide +kernel
theorem d5_9 : decode jdk_35_method_26_code 9 = .ok (.return_, 1) := by decide +kernel
theorem pn_java_lang_Long : plainName "java/lang/Long" = true := by first | (simp [plainName, overriddenIn]; done) | decide +kernel
theorem ef_5 (m : MethodId) (x0 : Addr) (x1 : Int64) : entryFrame m #[(.ref x0), (.long x1)] 3 = mkF m 0 #[.val (.ref x0), .val (.long x1), .second] [] := by first | (simp [entryFrame, mkF, argsToLocals, Value.category]; done) | rfl
abbrev nm_5 : MethodName := ⟨"java/lang/Long", "<init>", "(J)V"⟩
set_option maxRecDepth 65536 in
set_option maxHeartbeats 40000000 in
theorem rm5 (l : Launch) (Z : State) (a0 : Array Value) (hw : ∀ d ∈ tables_1, d.before a0 Z = true) (ws : List Jvm.Cond) (a1 : Addr) (q2 : Int64) (h0 : Heap) (n0 : Nat) (Z0 : n0 ≤ h0.size) (g0_a1 : n0 ≤ a1) (EA : Exa Z h0 a1 "java/lang/Long") (FA : Fld Z h0 a1 "java/lang/Long" "value" "J" (.long (0 : Int64))) :
    MetFree l nm_5 (head1 (Jvm.Cond.code nm_5 jdk_35_method_26_code 3 none :: ws) rr_2_0_0_24) (fun aa zU => aa = #[(.ref a1), (.long q2)] ∧ Z.Warmed39 zU.vm ∧ zU.heap = h0) (fun _ _ _ _ _ => True) (fun _ zU zo zU' => ∃ zv zL, zo = .returned zv ∧ QL Z a1 q2 h0 n0 zv zU'.heap zL ∧ FrameEnd zU zo zU' zL rr_2_0_0_24.cells rr_2_0_0_24.slots) := by
  refine MetFree.of_bodySF (plainFor_of_name pn_java_lang_Long) hisR ?_
  intro p e s m args below meth c s₁ Bd hml0 hP hK
  obtain ⟨rfl, hZ, hh⟩ := hP
  have hx := Bd.exec
  have hby := Bd.bytes
  have hml : c.maxLocals = 3 := hml0
  have hown : s.vm.findClass "java/lang/Long" = some m.cls := findClass_of_methodNamed Bd.named
  have hnm := (name_of_methodNamed Bd.named Bd.method).1
  have X0 : Stand p l e rr_2_0_0_24 s m #[(.ref a1), (.long q2)] below meth c s₁ [] 0 0 := Stand.of_body Bd
  have e0 : s₁.heap = h0 := by rw [← hh, Bd.state]; rfl
  have N0 := Fr.nil n0
  have pre0 : ∀ t, Steps p.tables e below (s₁.setTop (mkF m 0 #[.val (.ref a1), .val (.long q2), .second] [])) t → Steps p.tables e below (s₁.setTop (entryFrame m #[(.ref a1), (.long q2)] 3)) t := fun t k => castTop (ef_5 m a1 q2) k
  obtain ⟨_, _, ⟨T1, L1, k1, n1⟩, -, X1, ⟨Lc1, hQ1, l1, y1, z1⟩, st1⟩ := X0.specialBack hx (y := nm_6) rfl hown (mvT hZ (ow hw 37 rfl)) (mvT hZ (ow hw 38 rfl)) (mvT hZ (ow hw 42 rfl)) (by decide) (backOf (W := 0) (rm6 l Z a0 hw [] a1 h0 n0 Z0) hZ (ow hw 42 rfl) (ow hw 41 rfl) (by decide) (by decide)) (g := (mkF m 1 #[.val (.ref a1), .val (.long q2), .second] [(.ref a1)])) rfl (by rw [hml]; rfl) (Steps.refl _) (a := a1) (argsL := []) (rest := []) (lenOf pd_0 rfl) rfl (by show 2 * 0 + _ ≤ _; exact Nat.le_of_eq rfl) (hb hby d5_1) (fun _ _ => ⟨rfl, e0, (by decide : 0 + 0 ≤ _), (by decide : 0 + 0 ≤ _)⟩)
  dsimp only [Pt.U, Pt.locs, Pt.cells, Pt.slots] at X1 l1 y1 z1 st1 hQ1
  subst l1 y1 z1
  obtain ⟨rfl, N1q, e1⟩ := hQ1
  have N1 := Fr.app N0 N1q
  obtain ⟨T2, h2, X2, e2, W2, st2⟩ := putF X1 hx hZ hown (host := "") (Or.inl (ow hw 44 rfl)) Via.refl e1 FA EA (Or.inr ⟨(ow hw 45 rfl), rfl, hnm⟩) (ow hw 32 rfl) (ty := .long) (by decide) rfl rfl (g := (mkF m 6 #[.val (.ref a1), .val (.long q2), .second] [(.long q2), (.ref a1)])) rfl rfl (hb hby d5_6)
  have Fw2 := FA.same W2
  have N2 := Fr.snoc X2 N1 g0_a1
  have kp3 : Keep h0 h2 [a1] := ((Keep.refl h0 [a1]).wr W2 (Or.inl (List.mem_of_getElem? (i := 0) rfl)))
  have c4 := EA.wr W2
  obtain ⟨fsq, hr, hrun, hended, hW, hsame⟩ := X2.leave (v := none) (fun _ => rfl)
  refine ⟨_, _, pre0 _ ?_, hrun, hended, _, _, rfl, ?_, ⟨_, rfl⟩, hW, hsame.mono (by decide) (by decide)⟩
  · show Steps p.tables e below (s₁.setTop (mkF m 0 #[.val (.ref a1), .val (.long q2), .second] [])) _
    refine XS.aloadN X0.here hx rfl (hb hby d5_0) rfl rfl ?_
    refine st1.trans ?_
    refine XS.aloadN X1.here hx rfl (hb hby d5_4) rfl rfl ?_
    refine XS.lloadN X1.here hx rfl (hb hby d5_5) rfl ?_
    refine st2 _ ?_
    show Steps p.tables e below (T2.setTop (mkF m 9 #[.val (.ref a1), .val (.long q2), .second] [])) _
    exact X2.returnOut hx Bd.returns (hb hby d5_9) hr
  · show QL Z a1 q2 h0 n0 _ T2.heap _
    rw [e2]
    exact ⟨rfl, N2, kp3, c4, Fw2⟩
abbrev rr_3_1_1_39 : Room := { frames := 3, cells := 1, slots := 1, locals := 39 }
theorem d4_0 : decode jdk_35_method_24_code 0 = .ok (.sipush 128, 3) := by decide +kernel
theorem d4_3 : decode jdk_35_method_24_code 3 = .ok (.istore_n 2, 1) := by decide +kernel
theorem d4_4 : decode jdk_35_method_24_code 4 = .ok (.lload_n 0, 1) := by decide +kernel
theorem d4_5 : decode jdk_35_method_24_code 5 = .ok (.ldc2_w 230, 3) := by decide +kernel
theorem d4_8 : decode jdk_35_method_24_code 8 = .ok (.lcmp, 1) := by decide +kernel
theorem d4_9 : decode jdk_35_method_24_code 9 = .ok (.ifCond .lt 22, 3) := by decide +kernel
theorem d4_31 : decode jdk_35_method_24_code 31 = .ok (.new 1, 3) := by decide +kernel
theorem d4_34 : decode jdk_35_method_24_code 34 = .ok (.dup, 1) := by decide +kernel
theorem d4_35 : decode jdk_35_method_24_code 35 = .ok (.lload_n 0, 1) := by decide +kernel
theorem pd_3 : parseMethodDescriptor "(J)V" = some ⟨[.long], none⟩ := by decide +kernel
theorem d4_36 : decode jdk_35_method_24_code 36 = .ok (.invokespecial 240, 3) := by decide +kernel
theorem d4_39 : decode jdk_35_method_24_code 39 = .ok (.areturn, 1) := by decide +kernel
theorem ef_4 (m : MethodId) (x0 : Int64) : entryFrame m #[(.long x0)] 3 = mkF m 0 #[.val (.long x0), .second, .unset] [] := by first | (simp [entryFrame, mkF, argsToLocals, Value.category]; done) | rfl
abbrev nm_4 : MethodName := ⟨"java/lang/Long", "valueOf", "(J)Ljava/lang/Long;"⟩
set_option maxRecDepth 65536 in
set_option maxHeartbeats 40000000 in
theorem rm4_t (l : Launch) (Z : State) (a0 : Array Value) (hw : ∀ d ∈ tables_1, d.before a0 Z = true) (ws : List Jvm.Cond) (q1 : Int64) (h0 : Heap) (n0 : Nat) (Z0 : n0 ≤ h0.size) (hc9 : q1 < (-128 : Int64)) :
    MetFree l nm_4 (head1 (Jvm.Cond.code nm_4 jdk_35_method_24_code 3 (some (.object "java/lang/Long")) :: ws) rr_3_1_1_39) (fun aa zU => aa = #[(.long q1)] ∧ Z.Warmed39 zU.vm ∧ zU.heap = h0) (fun _ _ _ _ _ => True) (fun _ zU zo zU' => ∃ zv zL, zo = .returned zv ∧ QV Z q1 h0 n0 zv zU'.heap zL ∧ FrameEnd zU zo zU' zL rr_3_1_1_39.cells rr_3_1_1_39.slots) := by
  refine MetFree.of_bodySF (plainFor_of_name pn_java_lang_Long) hisR ?_
  intro p e s m args below meth c s₁ Bd hml0 hP hK
  obtain ⟨rfl, hZ, hh⟩ := hP
  have hx := Bd.exec
  have hby := Bd.bytes
  have hml : c.maxLocals = 3 := hml0
  have hown : s.vm.findClass "java/lang/Long" = some m.cls := findClass_of_methodNamed Bd.named
  have hnm := (name_of_methodNamed Bd.named Bd.method).1
  have X0 : Stand p l e rr_3_1_1_39 s m #[(.long q1)] below meth c s₁ [] 0 0 := Stand.of_body Bd
  have e0 : s₁.heap = h0 := by rw [← hh, Bd.state]; rfl
  have N0 := Fr.nil n0
  have pre0 : ∀ t, Steps p.tables e below (s₁.setTop (mkF m 0 #[.val (.long q1), .second, .unset] [])) t → Steps p.tables e below (s₁.setTop (entryFrame m #[(.long q1)] 3)) t := fun t k => castTop (ef_4 m q1) k
  obtain ⟨T1, h1, X1, e1, E1, A1, D1, -, st1⟩ := newO X0 hx hZ hown (ow hw 31 rfl) (ow hw 32 rfl) (ow hw 25 rfl) e0 (g := (mkF m 31 #[.val (.long q1), .second, .val (.int (128 : Int32))] [])) rfl (hb hby d4_31) (by decide) (by decide)
  obtain ⟨b1, g_b1⟩ : ∃ z, z = h0.size := ⟨_, rfl⟩
  rw [← g_b1] at A1 D1 st1
  have g0_b1 : n0 ≤ b1 := Nat.le_trans Z0 (Nat.le_of_eq g_b1.symm)
  have sz_b1 : h0.size ≤ b1 := Nat.le_trans (Nat.le_refl _) (Nat.le_of_eq g_b1.symm)
  have F_value_b1 : Fld Z h1 b1 "java/lang/Long" "value" "J" (.long (0 : Int64)) := D1 (Or.inr (ow hw 45 rfl)) (ty := .long) (by decide)
  obtain ⟨_, _, ⟨T2, L2, k2, n2⟩, -, X2, ⟨Lc2, hQ2, l2, y2, z2⟩, st2⟩ := X1.specialBack hx (y := nm_5) rfl hown (mvT hZ (ow hw 33 rfl)) (mvT hZ (ow hw 34 rfl)) (mvT hZ (ow hw 36 rfl)) (by decide) (backOf (W := 1) (rm5 l Z a0 hw [] b1 q1 h1 n0 (Nat.le_trans Z0 E1.1) g0_b1 A1 F_value_b1) hZ (ow hw 36 rfl) (ow hw 25 rfl) (by decide) (by decide)) (g := (mkF m 36 #[.val (.long q1), .second, .val (.int (128 : Int32))] [(.long q1), (.ref b1), (.ref b1)])) rfl (by rw [hml]; rfl) (Steps.refl _) (a := b1) (argsL := [(.long q1)]) (rest := [(.ref b1)]) (lenOf pd_3 rfl) rfl (by show 2 * 0 + _ ≤ _; exact Nat.le_of_eq rfl) (hb hby d4_36) (fun _ _ => ⟨rfl, e1, (by decide : 1 + 0 ≤ _), (by decide : 1 + 0 ≤ _)⟩)
  dsimp only [Pt.U, Pt.locs, Pt.cells, Pt.slots] at X2 l2 y2 z2 st2 hQ2
  subst l2 y2 z2
  obtain ⟨rfl, N2q, K2, EE2, FF2⟩ := hQ2
  have N2 := Fr.app N0 N2q
  have ex : Ext h0 T2.heap := ⟨(Nat.le_trans (Nat.le_trans (Nat.le_refl _) E1.1) K2.1), fun x cx hq => K2.2.1 x cx (E1.2 x cx hq) (ninS (Nat.ne_of_lt (Nat.lt_of_lt_of_le (Array.getElem?_eq_some_iff.mp hq).1 (Nat.le_of_eq g_b1.symm))) nin0)⟩
  obtain ⟨fsq, hr, hrun, hended, hW, hsame⟩ := X2.leave (v := some (.ref b1)) (fun h => by rw [Bd.returns] at h; cases h)
  refine ⟨_, _, pre0 _ ?_, hrun, hended, _, _, rfl, ?_, ⟨_, rfl⟩, hW, hsame.mono (by decide) (by decide)⟩
  · show Steps p.tables e below (s₁.setTop (mkF m 0 #[.val (.long q1), .second, .unset] [])) _
    refine XS.sipush X0.here hx rfl (hb hby d4_0) ?_
    refine XS.istoreN X0.here hx rfl (hb hby d4_3) rfl (l' := #[.val (.long q1), .second, .val (.int (128 : Int32))]) rfl ?_
    refine XS.lloadN X0.here hx rfl (hb hby d4_4) rfl ?_
    refine X0.ldc2Long hx hown (mvT hZ (ow hw 27 rfl)) (g := (mkF m 5 #[.val (.long q1), .second, .val (.int (128 : Int32))] [(.long q1)])) rfl (hb hby d4_5) _ ?_
    refine XS.lcmp X0.here hx rfl (hb hby d4_8) rfl ?_
    refine XS.ifYes X0.here hx rfl (pc0 := 9) (pc' := 31) rfl (hb hby d4_9) rfl ((if0 _ _).trans (tlt ((lw_lt _ _).mpr hc9)).1) (by decide) (by decide) ?_
    refine st1 _ ?_
    refine XS.dup X1.here hx rfl (hb hby d4_34) rfl rfl ?_
    refine XS.lloadN X1.here hx rfl (hb hby d4_35) rfl ?_
    show Steps p.tables e below (T1.setTop (mkF m 36 #[.val (.long q1), .second, .val (.int (128 : Int32))] [(.long q1), (.ref b1), (.ref b1)])) _
    refine st2.trans ?_
    show Steps p.tables e below (T2.setTop (mkF m 39 #[.val (.long q1), .second, .val (.int (128 : Int32))] [(.ref b1)])) _
    exact retOut X2 hx Bd.returns rfl (Or.inr (Or.inr (Or.inr (Or.inr ⟨rfl, rfl, rfl⟩)))) (hb hby d4_39) hr
  · show QV Z q1 h0 n0 _ T2.heap _
    exact ⟨_, rfl, N2, ex, EE2, FF2⟩
theorem d4_12 : decode jdk_35_method_24_code 12 = .ok (.lload_n 0, 1) := by decide +kernel
theorem d4_13 : decode jdk_35_method_24_code 13 = .ok (.ldc2_w 232, 3) := by decide +kernel
theorem d4_16 : decode jdk_35_method_24_code 16 = .ok (.lcmp, 1) := by decide +kernel
theorem d4_17 : decode jdk_35_method_24_code 17 = .ok (.ifCond .gt 14, 3) := by decide +kernel
set_option maxRecDepth 65536 in
set_option maxHeartbeats 40000000 in
theorem rm4_ft (l : Launch) (Z : State) (a0 : Array Value) (hw : ∀ d ∈ tables_1, d.before a0 Z = true) (ws : List Jvm.Cond) (q1 : Int64) (h0 : Heap) (n0 : Nat) (Z0 : n0 ≤ h0.size) (hc9 : ¬ (q1 < (-128 : Int64))) (hc17 : (127 : Int64) < q1) :
    MetFree l nm_4 (head1 (Jvm.Cond.code nm_4 jdk_35_method_24_code 3 (some (.object "java/lang/Long")) :: ws) rr_3_1_1_39) (fun aa zU => aa = #[(.long q1)] ∧ Z.Warmed39 zU.vm ∧ zU.heap = h0) (fun _ _ _ _ _ => True) (fun _ zU zo zU' => ∃ zv zL, zo = .returned zv ∧ QV Z q1 h0 n0 zv zU'.heap zL ∧ FrameEnd zU zo zU' zL rr_3_1_1_39.cells rr_3_1_1_39.slots) := by
  refine MetFree.of_bodySF (plainFor_of_name pn_java_lang_Long) hisR ?_
  intro p e s m args below meth c s₁ Bd hml0 hP hK
  obtain ⟨rfl, hZ, hh⟩ := hP
  have hx := Bd.exec
  have hby := Bd.bytes
  have hml : c.maxLocals = 3 := hml0
  have hown : s.vm.findClass "java/lang/Long" = some m.cls := findClass_of_methodNamed Bd.named
  have hnm := (name_of_methodNamed Bd.named Bd.method).1
  have X0 : Stand p l e rr_3_1_1_39 s m #[(.long q1)] below meth c s₁ [] 0 0 := Stand.of_body Bd
  have e0 : s₁.heap = h0 := by rw [← hh, Bd.state]; rfl
  have N0 := Fr.nil n0
  have pre0 : ∀ t, Steps p.tables e below (s₁.setTop (mkF m 0 #[.val (.long q1), .second, .unset] [])) t → Steps p.tables e below (s₁.setTop (entryFrame m #[(.long q1)] 3)) t := fun t k => castTop (ef_4 m q1) k
  obtain ⟨T1, h1, X1, e1, E1, A1, D1, -, st1⟩ := newO X0 hx hZ hown (ow hw 31 rfl) (ow hw 32 rfl) (ow hw 25 rfl) e0 (g := (mkF m 31 #[.val (.long q1), .second, .val (.int (128 : Int32))] [])) rfl (hb hby d4_31) (by decide) (by decide)
  obtain ⟨b1, g_b1⟩ : ∃ z, z = h0.size := ⟨_, rfl⟩
  rw [← g_b1] at A1 D1 st1
  have g0_b1 : n0 ≤ b1 := Nat.le_trans Z0 (Nat.le_of_eq g_b1.symm)
  have sz_b1 : h0.size ≤ b1 := Nat.le_trans (Nat.le_refl _) (Nat.le_of_eq g_b1.symm)
  have F_value_b1 : Fld Z h1 b1 "java/lang/Long" "value" "J" (.long (0 : Int64)) := D1 (Or.inr (ow hw 45 rfl)) (ty := .long) (by decide)
  obtain ⟨_, _, ⟨T2, L2, k2, n2⟩, -, X2, ⟨Lc2, hQ2, l2, y2, z2⟩, st2⟩ := X1.specialBack hx (y := nm_5) rfl hown (mvT hZ (ow hw 33 rfl)) (mvT hZ (ow hw 34 rfl)) (mvT hZ (ow hw 36 rfl)) (by decide) (backOf (W := 1) (rm5 l Z a0 hw [] b1 q1 h1 n0 (Nat.le_trans Z0 E1.1) g0_b1 A1 F_value_b1) hZ (ow hw 36 rfl) (ow hw 25 rfl) (by decide) (by decide)) (g := (mkF m 36 #[.val (.long q1), .second, .val (.int (128 : Int32))] [(.long q1), (.ref b1), (.ref b1)])) rfl (by rw [hml]; rfl) (Steps.refl _) (a := b1) (argsL := [(.long q1)]) (rest := [(.ref b1)]) (lenOf pd_3 rfl) rfl (by show 2 * 0 + _ ≤ _; exact Nat.le_of_eq rfl) (hb hby d4_36) (fun _ _ => ⟨rfl, e1, (by decide : 1 + 0 ≤ _), (by decide : 1 + 0 ≤ _)⟩)
  dsimp only [Pt.U, Pt.locs, Pt.cells, Pt.slots] at X2 l2 y2 z2 st2 hQ2
  subst l2 y2 z2
  obtain ⟨rfl, N2q, K2, EE2, FF2⟩ := hQ2
  have N2 := Fr.app N0 N2q
  have ex : Ext h0 T2.heap := ⟨(Nat.le_trans (Nat.le_trans (Nat.le_refl _) E1.1) K2.1), fun x cx hq => K2.2.1 x cx (E1.2 x cx hq) (ninS (Nat.ne_of_lt (Nat.lt_of_lt_of_le (Array.getElem?_eq_some_iff.mp hq).1 (Nat.le_of_eq g_b1.symm))) nin0)⟩
  obtain ⟨fsq, hr, hrun, hended, hW, hsame⟩ := X2.leave (v := some (.ref b1)) (fun h => by rw [Bd.returns] at h; cases h)
  refine ⟨_, _, pre0 _ ?_, hrun, hended, _, _, rfl, ?_, ⟨_, rfl⟩, hW, hsame.mono (by decide) (by decide)⟩
  · show Steps p.tables e below (s₁.setTop (mkF m 0 #[.val (.long q1), .second, .unset] [])) _
    refine XS.sipush X0.here hx rfl (hb hby d4_0) ?_
    refine XS.istoreN X0.here hx rfl (hb hby d4_3) rfl (l' := #[.val (.long q1), .second, .val (.int (128 : Int32))]) rfl ?_
    refine XS.lloadN X0.here hx rfl (hb hby d4_4) rfl ?_
    refine X0.ldc2Long hx hown (mvT hZ (ow hw 27 rfl)) (g := (mkF m 5 #[.val (.long q1), .second, .val (.int (128 : Int32))] [(.long q1)])) rfl (hb hby d4_5) _ ?_
    refine XS.lcmp X0.here hx rfl (hb hby d4_8) rfl ?_
    refine XS.ifNo X0.here hx rfl (hb hby d4_9) rfl ((if0 _ _).trans (flt (fun z => hc9 ((lw_lt _ _).mp z))).1) ?_
    refine XS.lloadN X0.here hx rfl (hb hby d4_12) rfl ?_
    refine X0.ldc2Long hx hown (mvT hZ (ow hw 28 rfl)) (g := (mkF m 13 #[.val (.long q1), .second, .val (.int (128 : Int32))] [(.long q1)])) rfl (hb hby d4_13) _ ?_
    refine XS.lcmp X0.here hx rfl (hb hby d4_16) rfl ?_
    show Steps p.tables e below (s₁.setTop (mkF m 17 #[.val (.long q1), .second, .val (.int (128 : Int32))] [(.int (lcmpW q1 (127 : Int64)))])) _
    refine XS.ifYes X0.here hx rfl (pc0 := 17) (pc' := 31) rfl (hb hby d4_17) rfl ((if0 _ _).trans (tlt ((lw_gt _ _).mpr hc17)).2.2.1) (by decide) (by decide) ?_
    refine st1 _ ?_
    refine XS.dup X1.here hx rfl (hb hby d4_34) rfl rfl ?_
    refine XS.lloadN X1.here hx rfl (hb hby d4_35) rfl ?_
    refine st2.trans ?_
    show Steps p.tables e below (T2.setTop (mkF m 39 #[.val (.long q1), .second, .val (.int (128 : Int32))] [(.ref b1)])) _
    exact retOut X2 hx Bd.returns rfl (Or.inr (Or.inr (Or.inr (Or.inr ⟨rfl, rfl, rfl⟩)))) (hb hby d4_39) hr
  · show QV Z q1 h0 n0 _ T2.heap _
    exact ⟨_, rfl, N2, ex, EE2, FF2⟩
theorem d4_20 : decode jdk_35_method_24_code 20 = .ok (.getstatic 234, 3) := by decide +kernel
theorem d4_23 : decode jdk_35_method_24_code 23 = .ok (.lload_n 0, 1) := by decide +kernel
theorem d4_24 : decode jdk_35_method_24_code 24 = .ok (.l2i, 1) := by decide +kernel
theorem d4_25 : decode jdk_35_method_24_code 25 = .ok (.sipush 128, 3) := by decide +kernel
theorem d4_28 : decode jdk_35_method_24_code 28 = .ok (.iadd, 1) := by decide +kernel
theorem d4_29 : decode jdk_35_method_24_code 29 = .ok (.aaload, 1) := by decide +kernel
theorem d4_30 : decode jdk_35_method_24_code 30 = .ok (.areturn, 1) := by decide +kernel
set_option maxRecDepth 65536 in
set_option maxHeartbeats 40000000 in
theorem rm4_ff (l : Launch) (Z : State) (a0 : Array Value) (hw : ∀ d ∈ tables_1, d.before a0 Z = true) (ws : List Jvm.Cond) (q1 : Int64) (b : Addr) (h0 : Heap) (n0 : Nat) (Z0 : n0 ≤ h0.size) (O0 : Old Z n0 h0) (SC : Sta Z Z.heap "java/lang/Long$LongCache" "cache" "[Ljava/lang/Long;" (.ref b)) (LC : LCache Z b) (hc9 : ¬ (q1 < (-128 : Int64))) (hc17 : ¬ ((127 : Int64) < q1)) :
    MetFree l nm_4 (head1 (Jvm.Cond.code nm_4 jdk_35_method_24_code 3 (some (.object "java/lang/Long")) :: ws) rr_3_1_1_39) (fun aa zU => aa = #[(.long q1)] ∧ Z.Warmed39 zU.vm ∧ zU.heap = h0) (fun _ _ _ _ _ => True) (fun _ zU zo zU' => ∃ zv zL, zo = .returned zv ∧ QV Z q1 h0 n0 zv zU'.heap zL ∧ FrameEnd zU zo zU' zL rr_3_1_1_39.cells rr_3_1_1_39.slots) := by
  refine MetFree.of_bodySF (plainFor_of_name pn_java_lang_Long) hisR ?_
  intro p e s m args below meth c s₁ Bd hml0 hP hK
  obtain ⟨rfl, hZ, hh⟩ := hP
  have hx := Bd.exec
  have hby := Bd.bytes
  have hml : c.maxLocals = 3 := hml0
  have hown : s.vm.findClass "java/lang/Long" = some m.cls := findClass_of_methodNamed Bd.named
  have hnm := (name_of_methodNamed Bd.named Bd.method).1
  have X0 : Stand p l e rr_3_1_1_39 s m #[(.long q1)] below meth c s₁ [] 0 0 := Stand.of_body Bd
  have e0 : s₁.heap = h0 := by rw [← hh, Bd.state]; rfl
  have N0 := Fr.nil n0
  have pre0 : ∀ t, Steps p.tables e below (s₁.setTop (mkF m 0 #[.val (.long q1), .second, .unset] [])) t → Steps p.tables e below (s₁.setTop (entryFrame m #[(.long q1)] 3)) t := fun t k => castTop (ef_4 m q1) k
  obtain ⟨cl, Ar0, Sz, Hc⟩ := LC
  obtain ⟨i1, i2, i3, i4⟩ := own_idx q1 hc9 hc17
  obtain ⟨av, hat, EA, FA⟩ := Hc _ i3
  rw [i4] at FA
  have Ar := Ar0.ext O0.2
  have hin : ¬ ((q1.toInt32 + (128 : Int32)) < 0 ∨ cl.slots.size ≤ (q1.toInt32 + (128 : Int32)).toNatClampNeg) := fun z => z.elim i1 (fun z => by rw [Sz, i2] at z; omega)
  rw [← i2] at hat
  obtain ⟨T1, X1, e1, st1⟩ := getS2 X0 hx hZ hown (host := "") (Or.inl (ow hw 29 rfl)) Via.refl e0 (SC.ext O0.2) (g := (mkF m 20 #[.val (.long q1), .second, .val (.int (128 : Int32))] [])) rfl (hb hby d4_20)
  obtain ⟨fsq, hr, hrun, hended, hW, hsame⟩ := X1.leave (v := some (.ref av)) (fun h => by rw [Bd.returns] at h; cases h)
  refine ⟨_, _, pre0 _ ?_, hrun, hended, _, _, rfl, ?_, ⟨_, rfl⟩, hW, hsame.mono (by decide) (by decide)⟩
  · show Steps p.tables e below (s₁.setTop (mkF m 0 #[.val (.long q1), .second, .unset] [])) _
    refine XS.sipush X0.here hx rfl (hb hby d4_0) ?_
    refine XS.istoreN X0.here hx rfl (hb hby d4_3) rfl (l' := #[.val (.long q1), .second, .val (.int (128 : Int32))]) rfl ?_
    refine XS.lloadN X0.here hx rfl (hb hby d4_4) rfl ?_
    refine X0.ldc2Long hx hown (mvT hZ (ow hw 27 rfl)) (g := (mkF m 5 #[.val (.long q1), .second, .val (.int (128 : Int32))] [(.long q1)])) rfl (hb hby d4_5) _ ?_
    refine XS.lcmp X0.here hx rfl (hb hby d4_8) rfl ?_
    refine XS.ifNo X0.here hx rfl (hb hby d4_9) rfl ((if0 _ _).trans (flt (fun z => hc9 ((lw_lt _ _).mp z))).1) ?_
    refine XS.lloadN X0.here hx rfl (hb hby d4_12) rfl ?_
    refine X0.ldc2Long hx hown (mvT hZ (ow hw 28 rfl)) (g := (mkF m 13 #[.val (.long q1), .second, .val (.int (128 : Int32))] [(.long q1)])) rfl (hb hby d4_13) _ ?_
    refine XS.lcmp X0.here hx rfl (hb hby d4_16) rfl ?_
    show Steps p.tables e below (s₁.setTop (mkF m 17 #[.val (.long q1), .second, .val (.int (128 : Int32))] [(.int (lcmpW q1 (127 : Int64)))])) _
    refine XS.ifNo X0.here hx rfl (hb hby d4_17) rfl ((if0 _ _).trans (flt (fun z => hc17 ((lw_gt _ _).mp z))).2.2.1) ?_
    refine st1 _ ?_
    refine XS.lloadN X1.here hx rfl (hb hby d4_23) rfl ?_
    refine XS.l2i X1.here hx rfl (hb hby d4_24) rfl ?_
    refine XS.sipush X1.here hx rfl (hb hby d4_25) ?_
    refine XS.iadd X1.here hx rfl (hb hby d4_28) rfl ?_
    refine X1.aaload hx (j := ((q1.toInt32) + (128 : Int32))) (v := (.ref av)) (by rw [e1]; exact Ar.1) (State.isArrayOf_alike hZ.alike Ar.2.1) rfl Ar.2.2 hin hat (g := (mkF m 29 #[.val (.long q1), .second, .val (.int (128 : Int32))] [(.int ((q1.toInt32) + (128 : Int32))), (.ref b)])) rfl rfl (hb hby d4_29) _ ?_
    show Steps p.tables e below (T1.setTop (mkF m 30 #[.val (.long q1), .second, .val (.int (128 : Int32))] [(.ref av)])) _
    exact retOut X1 hx Bd.returns rfl (Or.inr (Or.inr (Or.inr (Or.inr ⟨rfl, rfl, rfl⟩)))) (hb hby d4_30) hr
  · show QV Z q1 h0 n0 _ T1.heap _
    rw [e1]
    exact ⟨_, rfl, N0, ⟨Nat.le_refl _, fun _ _ q => q⟩, EA.ext O0.2, FA.ext O0.2⟩
theorem rm4 (l : Launch) (Z : State) (a0 : Array Value) (hw : ∀ d ∈ tables_1, d.before a0 Z = true) (ws : List Jvm.Cond) (q1 : Int64) (b : Addr) (h0 : Heap) (n0 : Nat) (Z0 : n0 ≤ h0.size) (O0 : Old Z n0 h0) (SC : Sta Z Z.heap "java/lang/Long$LongCache" "cache" "[Ljava/lang/Long;" (.ref b)) (LC : LCache Z b) :
    MetFree l nm_4 (head1 (Jvm.Cond.code nm_4 jdk_35_method_24_code 3 (some (.object "java/lang/Long")) :: ws) rr_3_1_1_39) (fun aa zU => aa = #[(.long q1)] ∧ Z.Warmed39 zU.vm ∧ zU.heap = h0) (fun _ _ _ _ _ => True) (fun _ zU zo zU' => ∃ zv zL, zo = .returned zv ∧ QV Z q1 h0 n0 zv zU'.heap zL ∧ FrameEnd zU zo zU' zL rr_3_1_1_39.cells rr_3_1_1_39.slots) := by
  by_cases c1 : q1 < (-128 : Int64)
  · exact rm4_t l Z a0 hw ws q1 h0 n0 Z0 c1
  by_cases c2 : (127 : Int64) < q1
  · exact rm4_ft l Z a0 hw ws q1 h0 n0 Z0 c1 c2
  · exact rm4_ff l Z a0 hw ws q1 b h0 n0 Z0 O0 SC LC c1 c2
theorem d9_0 : decode jdk_35_method_31_code 0 = .ok (.aload_n 0, 1) := by decide +kernel
theorem d9_1 : decode jdk_35_method_31_code 1 = .ok (.getfield 273, 3) := by decide +kernel
theorem d9_4 : decode jdk_35_method_31_code 4 = .ok (.lreturn, 1) := by decide +kernel
theorem ef_9 (m : MethodId) (x0 : Addr) : entryFrame m #[(.ref x0)] 1 = mkF m 0 #[.val (.ref x0)] [] := by first | (simp [entryFrame, mkF, argsToLocals, Value.category]; done) | rfl
abbrev nm_9 : MethodName := ⟨"java/lang/Long", "longValue", "()J"⟩
set_option maxRecDepth 65536 in
set_option maxHeartbeats 40000000 in
theorem rm9 (l : Launch) (Z : State) (a0 : Array Value) (hw : ∀ d ∈ tables_1, d.before a0 Z = true) (ws : List Jvm.Cond) (a1 : Addr) (q : Int64) (h0 : Heap) (n0 : Nat) (Z0 : n0 ≤ h0.size) (FA : Fld Z h0 a1 "java/lang/Long" "value" "J" (.long q)) :
    MetFree l nm_9 (head1 (Jvm.Cond.code nm_9 jdk_35_method_31_code 1 (some .long) :: ws) rr0) (fun aa zU => aa = #[(.ref a1)] ∧ Z.Warmed39 zU.vm ∧ zU.heap = h0) (fun _ _ _ _ _ => True) (fun _ zU zo zU' => ∃ zv zL, zo = .returned zv ∧ QP (some (.long q)) h0 n0 zv zU'.heap zL ∧ FrameEnd zU zo zU' zL rr0.cells rr0.slots) := by
  refine MetFree.of_bodySF (plainFor_of_name pn_java_lang_Long) hisR ?_
  intro p e s m args below meth c s₁ Bd hml0 hP hK
  obtain ⟨rfl, hZ, hh⟩ := hP
  have hx := Bd.exec
  have hby := Bd.bytes
  have hml : c.maxLocals = 1 := hml0
  have hown : s.vm.findClass "java/lang/Long" = some m.cls := findClass_of_methodNamed Bd.named
  have hnm := (name_of_methodNamed Bd.named Bd.method).1
  have X0 : Stand p l e rr0 s m #[(.ref a1)] below meth c s₁ [] 0 0 := Stand.of_body Bd
  have e0 : s₁.heap = h0 := by rw [← hh, Bd.state]; rfl
  have N0 := Fr.nil n0
  have pre0 : ∀ t, Steps p.tables e below (s₁.setTop (mkF m 0 #[.val (.ref a1)] [])) t → Steps p.tables e below (s₁.setTop (entryFrame m #[(.ref a1)] 1)) t := fun t k => castTop (ef_9 m a1) k
  obtain ⟨T1, X1, e1, st1⟩ := getF X0 hx hZ hown (host := "") (Or.inl (ow hw 44 rfl)) Via.refl e0 FA (g := (mkF m 1 #[.val (.ref a1)] [(.ref a1)])) rfl rfl (hb hby d9_1)
  obtain ⟨fsq, hr, hrun, hended, hW, hsame⟩ := X1.leave (v := some (.long q)) (fun h => by rw [Bd.returns] at h; cases h)
  refine ⟨_, _, pre0 _ ?_, hrun, hended, _, _, rfl, ?_, ⟨_, rfl⟩, hW, hsame.mono (by decide) (by decide)⟩
  · show Steps p.tables e below (s₁.setTop (mkF m 0 #[.val (.ref a1)] [])) _
    refine XS.aloadN X0.here hx rfl (hb hby d9_0) rfl rfl ?_
    refine st1 _ ?_
    show Steps p.tables e below (T1.setTop (mkF m 4 #[.val (.ref a1)] [(.long q)])) _
    exact retOut X1 hx Bd.returns rfl (Or.inr (Or.inl ⟨rfl, rfl, _, rfl⟩)) (hb hby d9_4) hr
  · show QP (some (.long q)) h0 n0 _ T1.heap _
    rw [e1]
    exact ⟨rfl, N0, rfl⟩
theorem d11_0 : decode prog_27_method_2_code 0 = .ok (.aload_n 0, 1) := by decide +kernel
theorem d11_1 : decode prog_27_method_2_code 1 = .ok (.getfield 11, 3) := by decide +kernel
theorem d11_4 : decode prog_27_method_2_code 4 = .ok (.lreturn, 1) := by decide +kernel
theorem ef_11 (m : MethodId) (x0 : Addr) : entryFrame m #[(.ref x0)] 1 = mkF m 0 #[.val (.ref x0)] [] := by first | (simp [entryFrame, mkF, argsToLocals, Value.category]; done) | rfl
abbrev nm_11 : MethodName := ⟨"com/example/keyed_work_queue/keyedworkqueue/Pending", "floorXact", "()J"⟩
set_option maxRecDepth 65536 in
set_option maxHeartbeats 40000000 in
theorem rm11 (l : Launch) (Z : State) (a0 : Array Value) (hw : ∀ d ∈ tables_1, d.before a0 Z = true) (ws : List Jvm.Cond) (a1 : Addr) (q : Int64) (h0 : Heap) (n0 : Nat) (Z0 : n0 ≤ h0.size) (FA : Fld Z h0 a1 "com/example/keyed_work_queue/keyedworkqueue/Pending" "floorXact" "J" (.long q)) :
    MetFree l nm_11 (head1 (Jvm.Cond.code nm_11 prog_27_method_2_code 1 (some .long) :: ws) rr0) (fun aa zU => aa = #[(.ref a1)] ∧ Z.Warmed39 zU.vm ∧ zU.heap = h0) (fun _ _ _ _ _ => True) (fun _ zU zo zU' => ∃ zv zL, zo = .returned zv ∧ QP (some (.long q)) h0 n0 zv zU'.heap zL ∧ FrameEnd zU zo zU' zL rr0.cells rr0.slots) := by
  refine MetFree.of_bodySF (plainFor_of_name pn_com_example_keyed_work_queue_keyedworkqueue_Pending) hisR ?_
  intro p e s m args below meth c s₁ Bd hml0 hP hK
  obtain ⟨rfl, hZ, hh⟩ := hP
  have hx := Bd.exec
  have hby := Bd.bytes
  have hml : c.maxLocals = 1 := hml0
  have hown : s.vm.findClass "com/example/keyed_work_queue/keyedworkqueue/Pending" = some m.cls := findClass_of_methodNamed Bd.named
  have hnm := (name_of_methodNamed Bd.named Bd.method).1
  have X0 : Stand p l e rr0 s m #[(.ref a1)] below meth c s₁ [] 0 0 := Stand.of_body Bd
  have e0 : s₁.heap = h0 := by rw [← hh, Bd.state]; rfl
  have N0 := Fr.nil n0
  have pre0 : ∀ t, Steps p.tables e below (s₁.setTop (mkF m 0 #[.val (.ref a1)] [])) t → Steps p.tables e below (s₁.setTop (entryFrame m #[(.ref a1)] 1)) t := fun t k => castTop (ef_11 m a1) k
  obtain ⟨T1, X1, e1, st1⟩ := getF X0 hx hZ hown (host := "") (Or.inl (ow hw 10 rfl)) Via.refl e0 FA (g := (mkF m 1 #[.val (.ref a1)] [(.ref a1)])) rfl rfl (hb hby d11_1)
  obtain ⟨fsq, hr, hrun, hended, hW, hsame⟩ := X1.leave (v := some (.long q)) (fun h => by rw [Bd.returns] at h; cases h)
  refine ⟨_, _, pre0 _ ?_, hrun, hended, _, _, rfl, ?_, ⟨_, rfl⟩, hW, hsame.mono (by decide) (by decide)⟩
  · show Steps p.tables e below (s₁.setTop (mkF m 0 #[.val (.ref a1)] [])) _
    refine XS.aloadN X0.here hx rfl (hb hby d11_0) rfl rfl ?_
    refine st1 _ ?_
    show Steps p.tables e below (T1.setTop (mkF m 4 #[.val (.ref a1)] [(.long q)])) _
    exact retOut X1 hx Bd.returns rfl (Or.inr (Or.inl ⟨rfl, rfl, _, rfl⟩)) (hb hby d11_4) hr
  · show QP (some (.long q)) h0 n0 _ T1.heap _
    rw [e1]
    exact ⟨rfl, N0, rfl⟩
theorem d12_0 : decode prog_27_method_3_code 0 = .ok (.aload_n 0, 1) := by decide +kernel
theorem d12_1 : decode prog_27_method_3_code 1 = .ok (.getfield 17, 3) := by decide +kernel
theorem d12_4 : decode prog_27_method_3_code 4 = .ok (.lreturn, 1) := by decide +kernel
theorem ef_12 (m : MethodId) (x0 : Addr) : entryFrame m #[(.ref x0)] 1 = mkF m 0 #[.val (.ref x0)] [] := by first | (simp [entryFrame, mkF, argsToLocals, Value.category]; done) | rfl
abbrev nm_12 : MethodName := ⟨"com/example/keyed_work_queue/keyedworkqueue/Pending", "floorSeq", "()J"⟩
set_option maxRecDepth 65536 in
set_option maxHeartbeats 40000000 in
theorem rm12 (l : Launch) (Z : State) (a0 : Array Value) (hw : ∀ d ∈ tables_1, d.before a0 Z = true) (ws : List Jvm.Cond) (a1 : Addr) (q : Int64) (h0 : Heap) (n0 : Nat) (Z0 : n0 ≤ h0.size) (FA : Fld Z h0 a1 "com/example/keyed_work_queue/keyedworkqueue/Pending" "floorSeq" "J" (.long q)) :
    MetFree l nm_12 (head1 (Jvm.Cond.code nm_12 prog_27_method_3_code 1 (some .long) :: ws) rr0) (fun aa zU => aa = #[(.ref a1)] ∧ Z.Warmed39 zU.vm ∧ zU.heap = h0) (fun _ _ _ _ _ => True) (fun _ zU zo zU' => ∃ zv zL, zo = .returned zv ∧ QP (some (.long q)) h0 n0 zv zU'.heap zL ∧ FrameEnd zU zo zU' zL rr0.cells rr0.slots) := by
  refine MetFree.of_bodySF (plainFor_of_name pn_com_example_keyed_work_queue_keyedworkqueue_Pending) hisR ?_
  intro p e s m args below meth c s₁ Bd hml0 hP hK
  obtain ⟨rfl, hZ, hh⟩ := hP
  have hx := Bd.exec
  have hby := Bd.bytes
  have hml : c.maxLocals = 1 := hml0
  have hown : s.vm.findClass "com/example/keyed_work_queue/keyedworkqueue/Pending" = some m.cls := findClass_of_methodNamed Bd.named
  have hnm := (name_of_methodNamed Bd.named Bd.method).1
  have X0 : Stand p l e rr0 s m #[(.ref a1)] below meth c s₁ [] 0 0 := Stand.of_body Bd
  have e0 : s₁.heap = h0 := by rw [← hh, Bd.state]; rfl
  have N0 := Fr.nil n0
  have pre0 : ∀ t, Steps p.tables e below (s₁.setTop (mkF m 0 #[.val (.ref a1)] [])) t → Steps p.tables e below (s₁.setTop (entryFrame m #[(.ref a1)] 1)) t := fun t k => castTop (ef_12 m a1) k
  obtain ⟨T1, X1, e1, st1⟩ := getF X0 hx hZ hown (host := "") (Or.inl (ow hw 12 rfl)) Via.refl e0 FA (g := (mkF m 1 #[.val (.ref a1)] [(.ref a1)])) rfl rfl (hb hby d12_1)
  obtain ⟨fsq, hr, hrun, hended, hW, hsame⟩ := X1.leave (v := some (.long q)) (fun h => by rw [Bd.returns] at h; cases h)
  refine ⟨_, _, pre0 _ ?_, hrun, hended, _, _, rfl, ?_, ⟨_, rfl⟩, hW, hsame.mono (by decide) (by decide)⟩
  · show Steps p.tables e below (s₁.setTop (mkF m 0 #[.val (.ref a1)] [])) _
    refine XS.aloadN X0.here hx rfl (hb hby d12_0) rfl rfl ?_
    refine st1 _ ?_
    show Steps p.tables e below (T1.setTop (mkF m 4 #[.val (.ref a1)] [(.long q)])) _
    exact retOut X1 hx Bd.returns rfl (Or.inr (Or.inl ⟨rfl, rfl, _, rfl⟩)) (hb hby d12_4) hr
  · show QP (some (.long q)) h0 n0 _ T1.heap _
    rw [e1]
    exact ⟨rfl, N0, rfl⟩
theorem d13_0 : decode prog_27_method_4_code 0 = .ok (.aload_n 0, 1) := by decide +kernel
theorem d13_1 : decode prog_27_method_4_code 1 = .ok (.getfield 20, 3) := by decide +kernel
theorem d13_4 : decode prog_27_method_4_code 4 = .ok (.ireturn, 1) := by decide +kernel
theorem ef_13 (m : MethodId) (x0 : Addr) : entryFrame m #[(.ref x0)] 1 = mkF m 0 #[.val (.ref x0)] [] := by first | (simp [entryFrame, mkF, argsToLocals, Value.category]; done) | rfl
abbrev nm_13 : MethodName := ⟨"com/example/keyed_work_queue/keyedworkqueue/Pending", "mayHaveJobs", "()Z"⟩
set_option maxRecDepth 65536 in
set_option maxHeartbeats 40000000 in
theorem rm13_0 (l : Launch) (Z : State) (a0 : Array Value) (hw : ∀ d ∈ tables_1, d.before a0 Z = true) (ws : List Jvm.Cond) (a1 : Addr) (h0 : Heap) (n0 : Nat) (Z0 : n0 ≤ h0.size) (FA : Fld Z h0 a1 "com/example/keyed_work_queue/keyedworkqueue/Pending" "seen" "Z" (.int (0 : Int32))) :
    MetFree l nm_13 (head1 (Jvm.Cond.code nm_13 prog_27_method_4_code 1 (some .boolean) :: ws) rr0) (fun aa zU => aa = #[(.ref a1)] ∧ Z.Warmed39 zU.vm ∧ zU.heap = h0) (fun _ _ _ _ _ => True) (fun _ zU zo zU' => ∃ zv zL, zo = .returned zv ∧ QP (some (.int (0 : Int32))) h0 n0 zv zU'.heap zL ∧ FrameEnd zU zo zU' zL rr0.cells rr0.slots) := by
  refine MetFree.of_bodySF (plainFor_of_name pn_com_example_keyed_work_queue_keyedworkqueue_Pending) hisR ?_
  intro p e s m args below meth c s₁ Bd hml0 hP hK
  obtain ⟨rfl, hZ, hh⟩ := hP
  have hx := Bd.exec
  have hby := Bd.bytes
  have hml : c.maxLocals = 1 := hml0
  have hown : s.vm.findClass "com/example/keyed_work_queue/keyedworkqueue/Pending" = some m.cls := findClass_of_methodNamed Bd.named
  have hnm := (name_of_methodNamed Bd.named Bd.method).1
  have X0 : Stand p l e rr0 s m #[(.ref a1)] below meth c s₁ [] 0 0 := Stand.of_body Bd
  have e0 : s₁.heap = h0 := by rw [← hh, Bd.state]; rfl
  have N0 := Fr.nil n0
  have pre0 : ∀ t, Steps p.tables e below (s₁.setTop (mkF m 0 #[.val (.ref a1)] [])) t → Steps p.tables e below (s₁.setTop (entryFrame m #[(.ref a1)] 1)) t := fun t k => castTop (ef_13 m a1) k
  obtain ⟨T1, X1, e1, st1⟩ := getF X0 hx hZ hown (host := "") (Or.inl (ow hw 14 rfl)) Via.refl e0 FA (g := (mkF m 1 #[.val (.ref a1)] [(.ref a1)])) rfl rfl (hb hby d13_1)
  obtain ⟨fsq, hr, hrun, hended, hW, hsame⟩ := X1.leave (v := some (.int (0 : Int32))) (fun h => by rw [Bd.returns] at h; cases h)
  refine ⟨_, _, pre0 _ ?_, hrun, hended, _, _, rfl, ?_, ⟨_, rfl⟩, hW, hsame.mono (by decide) (by decide)⟩
  · show Steps p.tables e below (s₁.setTop (mkF m 0 #[.val (.ref a1)] [])) _
    refine XS.aloadN X0.here hx rfl (hb hby d13_0) rfl rfl ?_
    refine st1 _ ?_
    show Steps p.tables e below (T1.setTop (mkF m 4 #[.val (.ref a1)] [(.int (0 : Int32))])) _
    exact retN X1 hx (t := .boolean) Bd.returns (by simp) (hb hby d13_4) hr
  · show QP (some (.int (0 : Int32))) h0 n0 _ T1.heap _
    rw [e1]
    exact ⟨rfl, N0, rfl⟩
set_option maxRecDepth 65536 in
set_option maxHeartbeats 40000000 in
theorem rm13_1 (l : Launch) (Z : State) (a0 : Array Value) (hw : ∀ d ∈ tables_1, d.before a0 Z = true) (ws : List Jvm.Cond) (a1 : Addr) (h0 : Heap) (n0 : Nat) (Z0 : n0 ≤ h0.size) (FA : Fld Z h0 a1 "com/example/keyed_work_queue/keyedworkqueue/Pending" "seen" "Z" (.int (1 : Int32))) :
    MetFree l nm_13 (head1 (Jvm.Cond.code nm_13 prog_27_method_4_code 1 (some .boolean) :: ws) rr0) (fun aa zU => aa = #[(.ref a1)] ∧ Z.Warmed39 zU.vm ∧ zU.heap = h0) (fun _ _ _ _ _ => True) (fun _ zU zo zU' => ∃ zv zL, zo = .returned zv ∧ QP (some (.int (1 : Int32))) h0 n0 zv zU'.heap zL ∧ FrameEnd zU zo zU' zL rr0.cells rr0.slots) := by
  refine MetFree.of_bodySF (plainFor_of_name pn_com_example_keyed_work_queue_keyedworkqueue_Pending) hisR ?_
  intro p e s m args below meth c s₁ Bd hml0 hP hK
  obtain ⟨rfl, hZ, hh⟩ := hP
  have hx := Bd.exec
  have hby := Bd.bytes
  have hml : c.maxLocals = 1 := hml0
  have hown : s.vm.findClass "com/example/keyed_work_queue/keyedworkqueue/Pending" = some m.cls := findClass_of_methodNamed Bd.named
  have hnm := (name_of_methodNamed Bd.named Bd.method).1
  have X0 : Stand p l e rr0 s m #[(.ref a1)] below meth c s₁ [] 0 0 := Stand.of_body Bd
  have e0 : s₁.heap = h0 := by rw [← hh, Bd.state]; rfl
  have N0 := Fr.nil n0
  have pre0 : ∀ t, Steps p.tables e below (s₁.setTop (mkF m 0 #[.val (.ref a1)] [])) t → Steps p.tables e below (s₁.setTop (entryFrame m #[(.ref a1)] 1)) t := fun t k => castTop (ef_13 m a1) k
  obtain ⟨T1, X1, e1, st1⟩ := getF X0 hx hZ hown (host := "") (Or.inl (ow hw 14 rfl)) Via.refl e0 FA (g := (mkF m 1 #[.val (.ref a1)] [(.ref a1)])) rfl rfl (hb hby d13_1)
  obtain ⟨fsq, hr, hrun, hended, hW, hsame⟩ := X1.leave (v := some (.int (1 : Int32))) (fun h => by rw [Bd.returns] at h; cases h)
  refine ⟨_, _, pre0 _ ?_, hrun, hended, _, _, rfl, ?_, ⟨_, rfl⟩, hW, hsame.mono (by decide) (by decide)⟩
  · show Steps p.tables e below (s₁.setTop (mkF m 0 #[.val (.ref a1)] [])) _
    refine XS.aloadN X0.here hx rfl (hb hby d13_0) rfl rfl ?_
    refine st1 _ ?_
    show Steps p.tables e below (T1.setTop (mkF m 4 #[.val (.ref a1)] [(.int (1 : Int32))])) _
    exact retN X1 hx (t := .boolean) Bd.returns (by simp) (hb hby d13_4) hr
  · show QP (some (.int (1 : Int32))) h0 n0 _ T1.heap _
    rw [e1]
    exact ⟨rfl, N0, rfl⟩
theorem d10_0 : decode method_3_code 0 = .ok (.lload_n 0, 1) := by decide +kernel
theorem d10_1 : decode method_3_code 1 = .ok (.lload 4, 2) := by decide +kernel
theorem d10_3 : decode method_3_code 3 = .ok (.lcmp, 1) := by decide +kernel
theorem d10_4 : decode method_3_code 4 = .ok (.ifCond .lt 17, 3) := by decide +kernel
theorem d10_21 : decode method_3_code 21 = .ok (.iconst 1, 1) := by decide +kernel
theorem d10_22 : decode method_3_code 22 = .ok (.goto 4, 3) := by decide +kernel
theorem d10_26 : decode method_3_code 26 = .ok (.ireturn, 1) := by decide +kernel
theorem pn_com_example_keyed_work_queue_keyedworkqueue_PendingFoundPinLaw : plainName "com/example/keyed_work_queue/keyedworkqueue/PendingFoundPinLaw" = true := by first | (simp [plainName, overriddenIn]; done) | decide +kernel
theorem ef_10 (m : MethodId) (x0 : Int64) (x1 : Int64) (x2 : Int64) (x3 : Int64) : entryFrame m #[(.long x0), (.long x1), (.long x2), (.long x3)] 8 = mkF m 0 #[.val (.long x0), .second, .val (.long x1), .second, .val (.long x2), .second, .val (.long x3), .second] [] := by first | (simp [entryFrame, mkF, argsToLocals, Value.category]; done) | rfl
abbrev nm_10 : MethodName := ⟨"com/example/keyed_work_queue/keyedworkqueue/PendingFoundPinLaw", "lexLess", "(JJJJ)Z"⟩
set_option maxRecDepth 65536 in
set_option maxHeartbeats 40000000 in
theorem rm10_t (l : Launch) (Z : State) (a0 : Array Value) (hw : ∀ d ∈ tables_1, d.before a0 Z = true) (ws : List Jvm.Cond) (q1 : Int64) (q2 : Int64) (q3 : Int64) (q4 : Int64) (h0 : Heap) (n0 : Nat) (Z0 : n0 ≤ h0.size) (hc4 : q1 < q3) :
    MetFree l nm_10 (head1 (Jvm.Cond.code nm_10 method_3_code 8 (some .boolean) :: ws) rr0) (fun aa zU => aa = #[(.long q1), (.long q2), (.long q3), (.long q4)] ∧ Z.Warmed39 zU.vm ∧ zU.heap = h0) (fun _ _ _ _ _ => True) (fun _ zU zo zU' => ∃ zv zL, zo = .returned zv ∧ QP (some (.int (1 : Int32))) h0 n0 zv zU'.heap zL ∧ FrameEnd zU zo zU' zL rr0.cells rr0.slots) := by
  refine MetFree.of_bodySF (plainFor_of_name pn_com_example_keyed_work_queue_keyedworkqueue_PendingFoundPinLaw) hisR ?_
  intro p e s m args below meth c s₁ Bd hml0 hP hK
  obtain ⟨rfl, hZ, hh⟩ := hP
  have hx := Bd.exec
  have hby := Bd.bytes
  have hml : c.maxLocals = 8 := hml0
  have hown : s.vm.findClass "com/example/keyed_work_queue/keyedworkqueue/PendingFoundPinLaw" = some m.cls := findClass_of_methodNamed Bd.named
  have hnm := (name_of_methodNamed Bd.named Bd.method).1
  have X0 : Stand p l e rr0 s m #[(.long q1), (.long q2), (.long q3), (.long q4)] below meth c s₁ [] 0 0 := Stand.of_body Bd
  have e0 : s₁.heap = h0 := by rw [← hh, Bd.state]; rfl
  have N0 := Fr.nil n0
  have pre0 : ∀ t, Steps p.tables e below (s₁.setTop (mkF m 0 #[.val (.long q1), .second, .val (.long q2), .second, .val (.long q3), .second, .val (.long q4), .second] [])) t → Steps p.tables e below (s₁.setTop (entryFrame m #[(.long q1), (.long q2), (.long q3), (.long q4)] 8)) t := fun t k => castTop (ef_10 m q1 q2 q3 q4) k
  obtain ⟨fsq, hr, hrun, hended, hW, hsame⟩ := X0.leave (v := some (.int (1 : Int32))) (fun h => by rw [Bd.returns] at h; cases h)
  refine ⟨_, _, pre0 _ ?_, hrun, hended, _, _, rfl, ?_, ⟨_, rfl⟩, hW, hsame.mono (by decide) (by decide)⟩
  · show Steps p.tables e below (s₁.setTop (mkF m 0 #[.val (.long q1), .second, .val (.long q2), .second, .val (.long q3), .second, .val (.long q4), .second] [])) _
    refine XS.lloadN X0.here hx rfl (hb hby d10_0) rfl ?_
    refine XS.lload X0.here hx rfl (hb hby d10_1) rfl ?_
    refine XS.lcmp X0.here hx rfl (hb hby d10_3) rfl ?_
    refine XS.ifYes X0.here hx rfl (pc0 := 4) (pc' := 21) rfl (hb hby d10_4) rfl ((if0 _ _).trans (tlt ((lw_lt _ _).mpr hc4)).1) (by decide) (by decide) ?_
    refine XS.iconst X0.here hx rfl (hb hby d10_21) ?_
    refine XS.goto X0.here hx rfl (pc0 := 22) (pc' := 26) rfl (hb hby d10_22) (by decide) (by decide) ?_
    show Steps p.tables e below (s₁.setTop (mkF m 26 #[.val (.long q1), .second, .val (.long q2), .second, .val (.long q3), .second, .val (.long q4), .second] [(.int (1 : Int32))])) _
    exact retN X0 hx (t := .boolean) Bd.returns (by simp) (hb hby d10_26) hr
  · show QP (some (.int (1 : Int32))) h0 n0 _ s₁.heap _
    rw [e0]
    exact ⟨rfl, N0, rfl⟩
theorem d10_7 : decode method_3_code 7 = .ok (.lload_n 0, 1) := by decide +kernel
theorem d10_8 : decode method_3_code 8 = .ok (.lload 4, 2) := by decide +kernel
theorem d10_10 : decode method_3_code 10 = .ok (.lcmp, 1) := by decide +kernel
theorem d10_11 : decode method_3_code 11 = .ok (.ifCond .ne 14, 3) := by decide +kernel
theorem d10_25 : decode method_3_code 25 = .ok (.iconst 0, 1) := by decide +kernel
set_option maxRecDepth 65536 in
set_option maxHeartbeats 40000000 in
theorem rm10_ft (l : Launch) (Z : State) (a0 : Array Value) (hw : ∀ d ∈ tables_1, d.before a0 Z = true) (ws : List Jvm.Cond) (q1 : Int64) (q2 : Int64) (q3 : Int64) (q4 : Int64) (h0 : Heap) (n0 : Nat) (Z0 : n0 ≤ h0.size) (hc4 : ¬ (q1 < q3)) (hc11 : ¬ (q1 = q3)) :
    MetFree l nm_10 (head1 (Jvm.Cond.code nm_10 method_3_code 8 (some .boolean) :: ws) rr0) (fun aa zU => aa = #[(.long q1), (.long q2), (.long q3), (.long q4)] ∧ Z.Warmed39 zU.vm ∧ zU.heap = h0) (fun _ _ _ _ _ => True) (fun _ zU zo zU' => ∃ zv zL, zo = .returned zv ∧ QP (some (.int (0 : Int32))) h0 n0 zv zU'.heap zL ∧ FrameEnd zU zo zU' zL rr0.cells rr0.slots) := by
  refine MetFree.of_bodySF (plainFor_of_name pn_com_example_keyed_work_queue_keyedworkqueue_PendingFoundPinLaw) hisR ?_
  intro p e s m args below meth c s₁ Bd hml0 hP hK
  obtain ⟨rfl, hZ, hh⟩ := hP
  have hx := Bd.exec
  have hby := Bd.bytes
  have hml : c.maxLocals = 8 := hml0
  have hown : s.vm.findClass "com/example/keyed_work_queue/keyedworkqueue/PendingFoundPinLaw" = some m.cls := findClass_of_methodNamed Bd.named
  have hnm := (name_of_methodNamed Bd.named Bd.method).1
  have X0 : Stand p l e rr0 s m #[(.long q1), (.long q2), (.long q3), (.long q4)] below meth c s₁ [] 0 0 := Stand.of_body Bd
  have e0 : s₁.heap = h0 := by rw [← hh, Bd.state]; rfl
  have N0 := Fr.nil n0
  have pre0 : ∀ t, Steps p.tables e below (s₁.setTop (mkF m 0 #[.val (.long q1), .second, .val (.long q2), .second, .val (.long q3), .second, .val (.long q4), .second] [])) t → Steps p.tables e below (s₁.setTop (entryFrame m #[(.long q1), (.long q2), (.long q3), (.long q4)] 8)) t := fun t k => castTop (ef_10 m q1 q2 q3 q4) k
  obtain ⟨fsq, hr, hrun, hended, hW, hsame⟩ := X0.leave (v := some (.int (0 : Int32))) (fun h => by rw [Bd.returns] at h; cases h)
  refine ⟨_, _, pre0 _ ?_, hrun, hended, _, _, rfl, ?_, ⟨_, rfl⟩, hW, hsame.mono (by decide) (by decide)⟩
  · show Steps p.tables e below (s₁.setTop (mkF m 0 #[.val (.long q1), .second, .val (.long q2), .second, .val (.long q3), .second, .val (.long q4), .second] [])) _
    refine XS.lloadN X0.here hx rfl (hb hby d10_0) rfl ?_
    refine XS.lload X0.here hx rfl (hb hby d10_1) rfl ?_
    refine XS.lcmp X0.here hx rfl (hb hby d10_3) rfl ?_
    refine XS.ifNo X0.here hx rfl (hb hby d10_4) rfl ((if0 _ _).trans (flt (fun z => hc4 ((lw_lt _ _).mp z))).1) ?_
    refine XS.lloadN X0.here hx rfl (hb hby d10_7) rfl ?_
    refine XS.lload X0.here hx rfl (hb hby d10_8) rfl ?_
    refine XS.lcmp X0.here hx rfl (hb hby d10_10) rfl ?_
    refine XS.ifYes X0.here hx rfl (pc0 := 11) (pc' := 25) rfl (hb hby d10_11) rfl ((if0 _ _).trans (feq (fun z => hc11 ((lw_eq _ _).mp z))).2) (by decide) (by decide) ?_
    refine XS.iconst X0.here hx rfl (hb hby d10_25) ?_
    show Steps p.tables e below (s₁.setTop (mkF m 26 #[.val (.long q1), .second, .val (.long q2), .second, .val (.long q3), .second, .val (.long q4), .second] [(.int (0 : Int32))])) _
    exact retN X0 hx (t := .boolean) Bd.returns (by simp) (hb hby d10_26) hr
  · show QP (some (.int (0 : Int32))) h0 n0 _ s₁.heap _
    rw [e0]
    exact ⟨rfl, N0, rfl⟩
theorem d10_14 : decode method_3_code 14 = .ok (.lload_n 2, 1) := by decide +kernel
theorem d10_15 : decode method_3_code 15 = .ok (.lload 6, 2) := by decide +kernel
theorem d10_17 : decode method_3_code 17 = .ok (.lcmp, 1) := by decide +kernel
theorem d10_18 : decode method_3_code 18 = .ok (.ifCond .ge 7, 3) := by decide +kernel
set_option maxRecDepth 65536 in
set_option maxHeartbeats 40000000 in
theorem rm10_fft (l : Launch) (Z : State) (a0 : Array Value) (hw : ∀ d ∈ tables_1, d.before a0 Z = true) (ws : List Jvm.Cond) (q1 : Int64) (q2 : Int64) (q3 : Int64) (q4 : Int64) (h0 : Heap) (n0 : Nat) (Z0 : n0 ≤ h0.size) (hc4 : ¬ (q1 < q3)) (hc11 : q1 = q3) (hc18 : ¬ (q2 < q4)) :
    MetFree l nm_10 (head1 (Jvm.Cond.code nm_10 method_3_code 8 (some .boolean) :: ws) rr0) (fun aa zU => aa = #[(.long q1), (.long q2), (.long q3), (.long q4)] ∧ Z.Warmed39 zU.vm ∧ zU.heap = h0) (fun _ _ _ _ _ => True) (fun _ zU zo zU' => ∃ zv zL, zo = .returned zv ∧ QP (some (.int (0 : Int32))) h0 n0 zv zU'.heap zL ∧ FrameEnd zU zo zU' zL rr0.cells rr0.slots) := by
  refine MetFree.of_bodySF (plainFor_of_name pn_com_example_keyed_work_queue_keyedworkqueue_PendingFoundPinLaw) hisR ?_
  intro p e s m args below meth c s₁ Bd hml0 hP hK
  obtain ⟨rfl, hZ, hh⟩ := hP
  have hx := Bd.exec
  have hby := Bd.bytes
  have hml : c.maxLocals = 8 := hml0
  have hown : s.vm.findClass "com/example/keyed_work_queue/keyedworkqueue/PendingFoundPinLaw" = some m.cls := findClass_of_methodNamed Bd.named
  have hnm := (name_of_methodNamed Bd.named Bd.method).1
  have X0 : Stand p l e rr0 s m #[(.long q1), (.long q2), (.long q3), (.long q4)] below meth c s₁ [] 0 0 := Stand.of_body Bd
  have e0 : s₁.heap = h0 := by rw [← hh, Bd.state]; rfl
  have N0 := Fr.nil n0
  have pre0 : ∀ t, Steps p.tables e below (s₁.setTop (mkF m 0 #[.val (.long q1), .second, .val (.long q2), .second, .val (.long q3), .second, .val (.long q4), .second] [])) t → Steps p.tables e below (s₁.setTop (entryFrame m #[(.long q1), (.long q2), (.long q3), (.long q4)] 8)) t := fun t k => castTop (ef_10 m q1 q2 q3 q4) k
  obtain ⟨fsq, hr, hrun, hended, hW, hsame⟩ := X0.leave (v := some (.int (0 : Int32))) (fun h => by rw [Bd.returns] at h; cases h)
  refine ⟨_, _, pre0 _ ?_, hrun, hended, _, _, rfl, ?_, ⟨_, rfl⟩, hW, hsame.mono (by decide) (by decide)⟩
  · show Steps p.tables e below (s₁.setTop (mkF m 0 #[.val (.long q1), .second, .val (.long q2), .second, .val (.long q3), .second, .val (.long q4), .second] [])) _
    refine XS.lloadN X0.here hx rfl (hb hby d10_0) rfl ?_
    refine XS.lload X0.here hx rfl (hb hby d10_1) rfl ?_
    refine XS.lcmp X0.here hx rfl (hb hby d10_3) rfl ?_
    refine XS.ifNo X0.here hx rfl (hb hby d10_4) rfl ((if0 _ _).trans (flt (fun z => hc4 ((lw_lt _ _).mp z))).1) ?_
    refine XS.lloadN X0.here hx rfl (hb hby d10_7) rfl ?_
    refine XS.lload X0.here hx rfl (hb hby d10_8) rfl ?_
    refine XS.lcmp X0.here hx rfl (hb hby d10_10) rfl ?_
    refine XS.ifNo X0.here hx rfl (hb hby d10_11) rfl ((if0 _ _).trans (teq ((lw_eq _ _).mpr hc11)).2) ?_
    refine XS.lloadN X0.here hx rfl (hb hby d10_14) rfl ?_
    show Steps p.tables e below (s₁.setTop (mkF m 15 #[.val (.long q1), .second, .val (.long q2), .second, .val (.long q3), .second, .val (.long q4), .second] [(.long q2)])) _
    refine XS.lload X0.here hx rfl (hb hby d10_15) rfl ?_
    refine XS.lcmp X0.here hx rfl (hb hby d10_17) rfl ?_
    refine XS.ifYes X0.here hx rfl (pc0 := 18) (pc' := 25) rfl (hb hby d10_18) rfl ((if0 _ _).trans (flt (fun z => hc18 ((lw_lt _ _).mp z))).2.1) (by decide) (by decide) ?_
    refine XS.iconst X0.here hx rfl (hb hby d10_25) ?_
    show Steps p.tables e below (s₁.setTop (mkF m 26 #[.val (.long q1), .second, .val (.long q2), .second, .val (.long q3), .second, .val (.long q4), .second] [(.int (0 : Int32))])) _
    exact retN X0 hx (t := .boolean) Bd.returns (by simp) (hb hby d10_26) hr
  · show QP (some (.int (0 : Int32))) h0 n0 _ s₁.heap _
    rw [e0]
    exact ⟨rfl, N0, rfl⟩
set_option maxRecDepth 65536 in
set_option maxHeartbeats 40000000 in
theorem rm10_fff (l : Launch) (Z : State) (a0 : Array Value) (hw : ∀ d ∈ tables_1, d.before a0 Z = true) (ws : List Jvm.Cond) (q1 : Int64) (q2 : Int64) (q3 : Int64) (q4 : Int64) (h0 : Heap) (n0 : Nat) (Z0 : n0 ≤ h0.size) (hc4 : ¬ (q1 < q3)) (hc11 : q1 = q3) (hc18 : q2 < q4) :
    MetFree l nm_10 (head1 (Jvm.Cond.code nm_10 method_3_code 8 (some .boolean) :: ws) rr0) (fun aa zU => aa = #[(.long q1), (.long q2), (.long q3), (.long q4)] ∧ Z.Warmed39 zU.vm ∧ zU.heap = h0) (fun _ _ _ _ _ => True) (fun _ zU zo zU' => ∃ zv zL, zo = .returned zv ∧ QP (some (.int (1 : Int32))) h0 n0 zv zU'.heap zL ∧ FrameEnd zU zo zU' zL rr0.cells rr0.slots) := by
  refine MetFree.of_bodySF (plainFor_of_name pn_com_example_keyed_work_queue_keyedworkqueue_PendingFoundPinLaw) hisR ?_
  intro p e s m args below meth c s₁ Bd hml0 hP hK
  obtain ⟨rfl, hZ, hh⟩ := hP
  have hx := Bd.exec
  have hby := Bd.bytes
  have hml : c.maxLocals = 8 := hml0
  have hown : s.vm.findClass "com/example/keyed_work_queue/keyedworkqueue/PendingFoundPinLaw" = some m.cls := findClass_of_methodNamed Bd.named
  have hnm := (name_of_methodNamed Bd.named Bd.method).1
  have X0 : Stand p l e rr0 s m #[(.long q1), (.long q2), (.long q3), (.long q4)] below meth c s₁ [] 0 0 := Stand.of_body Bd
  have e0 : s₁.heap = h0 := by rw [← hh, Bd.state]; rfl
  have N0 := Fr.nil n0
  have pre0 : ∀ t, Steps p.tables e below (s₁.setTop (mkF m 0 #[.val (.long q1), .second, .val (.long q2), .second, .val (.long q3), .second, .val (.long q4), .second] [])) t → Steps p.tables e below (s₁.setTop (entryFrame m #[(.long q1), (.long q2), (.long q3), (.long q4)] 8)) t := fun t k => castTop (ef_10 m q1 q2 q3 q4) k
  obtain ⟨fsq, hr, hrun, hended, hW, hsame⟩ := X0.leave (v := some (.int (1 : Int32))) (fun h => by rw [Bd.returns] at h; cases h)
  refine ⟨_, _, pre0 _ ?_, hrun, hended, _, _, rfl, ?_, ⟨_, rfl⟩, hW, hsame.mono (by decide) (by decide)⟩
  · show Steps p.tables e below (s₁.setTop (mkF m 0 #[.val (.long q1), .second, .val (.long q2), .second, .val (.long q3), .second, .val (.long q4), .second] [])) _
    refine XS.lloadN X0.here hx rfl (hb hby d10_0) rfl ?_
    refine XS.lload X0.here hx rfl (hb hby d10_1) rfl ?_
    refine XS.lcmp X0.here hx rfl (hb hby d10_3) rfl ?_
    refine XS.ifNo X0.here hx rfl (hb hby d10_4) rfl ((if0 _ _).trans (flt (fun z => hc4 ((lw_lt _ _).mp z))).1) ?_
    refine XS.lloadN X0.here hx rfl (hb hby d10_7) rfl ?_
    refine XS.lload X0.here hx rfl (hb hby d10_8) rfl ?_
    refine XS.lcmp X0.here hx rfl (hb hby d10_10) rfl ?_
    refine XS.ifNo X0.here hx rfl (hb hby d10_11) rfl ((if0 _ _).trans (teq ((lw_eq _ _).mpr hc11)).2) ?_
    refine XS.lloadN X0.here hx rfl (hb hby d10_14) rfl ?_
    show Steps p.tables e below (s₁.setTop (mkF m 15 #[.val (.long q1), .second, .val (.long q2), .second, .val (.long q3), .second, .val (.long q4), .second] [(.long q2)])) _
    refine XS.lload X0.here hx rfl (hb hby d10_15) rfl ?_
    refine XS.lcmp X0.here hx rfl (hb hby d10_17) rfl ?_
    refine XS.ifNo X0.here hx rfl (hb hby d10_18) rfl ((if0 _ _).trans (tlt ((lw_lt _ _).mpr hc18)).2.1) ?_
    refine XS.iconst X0.here hx rfl (hb hby d10_21) ?_
    refine XS.goto X0.here hx rfl (pc0 := 22) (pc' := 26) rfl (hb hby d10_22) (by decide) (by decide) ?_
    show Steps p.tables e below (s₁.setTop (mkF m 26 #[.val (.long q1), .second, .val (.long q2), .second, .val (.long q3), .second, .val (.long q4), .second] [(.int (1 : Int32))])) _
    exact retN X0 hx (t := .boolean) Bd.returns (by simp) (hb hby d10_26) hr
  · show QP (some (.int (1 : Int32))) h0 n0 _ s₁.heap _
    rw [e0]
    exact ⟨rfl, N0, rfl⟩
def Lex (a b c d : Int64) : Prop := a < c ∨ (a = c ∧ b < d)
instance (a b c d : Int64) : Decidable (Lex a b c d) := inferInstanceAs (Decidable (_ ∨ _))
theorem rm10 (l : Launch) (Z : State) (a0 : Array Value) (hw : ∀ d ∈ tables_1, d.before a0 Z = true) (ws : List Jvm.Cond) (q1 q2 q3 q4 : Int64) (h0 : Heap) (n0 : Nat) (Z0 : n0 ≤ h0.size) :
    MetFree l nm_10 (head1 (Jvm.Cond.code nm_10 method_3_code 8 (some .boolean) :: ws) rr0) (fun aa zU => aa = #[(.long q1), (.long q2), (.long q3), (.long q4)] ∧ Z.Warmed39 zU.vm ∧ zU.heap = h0) (fun _ _ _ _ _ => True) (fun _ zU zo zU' => ∃ zv zL, zo = .returned zv ∧ QP (some (.int (if Lex q1 q2 q3 q4 then (1 : Int32) else 0))) h0 n0 zv zU'.heap zL ∧ FrameEnd zU zo zU' zL rr0.cells rr0.slots) := by
  by_cases c1 : q1 < q3
  · rw [if_pos (show Lex q1 q2 q3 q4 from Or.inl c1)]; exact rm10_t l Z a0 hw ws q1 q2 q3 q4 h0 n0 Z0 c1
  by_cases c2 : q1 = q3
  · by_cases c3 : q2 < q4
    · rw [if_pos (show Lex q1 q2 q3 q4 from Or.inr ⟨c2, c3⟩)]; exact rm10_fff l Z a0 hw ws q1 q2 q3 q4 h0 n0 Z0 c1 c2 c3
    · rw [if_neg (fun z : Lex q1 q2 q3 q4 => z.elim c1 fun z => c3 z.2)]; exact rm10_fft l Z a0 hw ws q1 q2 q3 q4 h0 n0 Z0 c1 c2 c3
  · rw [if_neg (fun z : Lex q1 q2 q3 q4 => z.elim c1 fun z => c2 z.1)]; exact rm10_ft l Z a0 hw ws q1 q2 q3 q4 h0 n0 Z0 c1 c2
theorem LR.ref {Z : State} {h : Heap} {r : Value} {o : Option Int64} (F : LR Z h r o) : r.isRef = true := by
  rcases F with ⟨-, rfl⟩ | ⟨a, v, -, rfl, -⟩ <;> rfl
theorem LR.ext {Z : State} {h h' : Heap} {r : Value} {o : Option Int64} (F : LR Z h r o) (E : Ext h h') : LR Z h' r o := by
  rcases F with q | ⟨a, v, h1, h2, h3, h4⟩
  · exact Or.inl q
  · exact Or.inr ⟨a, v, h1, h2, h3.ext E, h4.ext E⟩
theorem LR.keepP {Z : State} {h h' : Heap} {r : Value} {o : Option Int64} {pq : Addr} {C : String} (F : LR Z h r o) (K : Keep h h' [pq]) (E : Exa Z h pq C) (hC : "java/lang/Long" ≠ C) : LR Z h' r o := by
  rcases F with q | ⟨a, v, h1, h2, h3, h4⟩
  · exact Or.inl q
  · exact Or.inr ⟨a, v, h1, h2, h3.keep K, h4.keep K (ninS (ne_exa h3 E hC) nin0)⟩
theorem LR.keepA {Z : State} {h h' : Heap} {r : Value} {o : Option Int64} {b : Addr} {k : ClassId} {ty : FieldType} {n : Int32} {vs : List Value} {d : Value} {a0 : Array Value} {kk : Nat} (F : LR Z h r o) (K : Keep h h' [b]) (V : Arv Z h b k ty n vs d) (wi : (Jvm.Cond.instantiable "java/lang/Long" kk).before a0 Z = true) : LR Z h' r o := by
  rcases F with q | ⟨a, v, h1, h2, h3, h4⟩
  · exact Or.inl q
  · obtain ⟨cl, Ar, -⟩ := V
    exact Or.inr ⟨a, v, h1, h2, h3.keep K, h4.keep K (ninS (ne_arr h3 wi Ar) nin0)⟩
abbrev rr_1_0_0_14 : Room := { frames := 1, cells := 0, slots := 0, locals := 14 }
theorem d14_0 : decode jdk_35_method_37_code 0 = .ok (.aload_n 1, 1) := by decide +kernel
theorem d14_1 : decode jdk_35_method_37_code 1 = .ok (.instanceof 1, 3) := by decide +kernel
theorem d14_4 : decode jdk_35_method_37_code 4 = .ok (.ifCond .eq 24, 3) := by decide +kernel
theorem d14_28 : decode jdk_35_method_37_code 28 = .ok (.iconst 0, 1) := by decide +kernel
theorem d14_29 : decode jdk_35_method_37_code 29 = .ok (.ireturn, 1) := by decide +kernel
theorem ef_14_RN (m : MethodId) (x0 : Addr) : entryFrame m #[(.ref x0), .null] 2 = mkF m 0 #[.val (.ref x0), .val .null] [] := by first | (simp [entryFrame, mkF, argsToLocals, Value.category]; done) | rfl
abbrev nm_14 : MethodName := ⟨"java/lang/Long", "equals", "(Ljava/lang/Object;)Z"⟩
set_option maxRecDepth 65536 in
set_option maxHeartbeats 40000000 in
theorem rm14_N (l : Launch) (Z : State) (a0 : Array Value) (hw : ∀ d ∈ tables_1, d.before a0 Z = true) (ws : List Jvm.Cond) (a1 : Addr) (v1 : Int64) (h0 : Heap) (n0 : Nat) (Z0 : n0 ≤ h0.size) :
    MetFree l nm_14 (head1 (Jvm.Cond.code nm_14 jdk_35_method_37_code 2 (some .boolean) :: ws) rr_1_0_0_14) (fun aa zU => aa = #[(.ref a1), .null] ∧ Z.Warmed39 zU.vm ∧ zU.heap = h0) (fun _ _ _ _ _ => True) (fun _ zU zo zU' => ∃ zv zL, zo = .returned zv ∧ QP (some (.int (0 : Int32))) h0 n0 zv zU'.heap zL ∧ FrameEnd zU zo zU' zL rr_1_0_0_14.cells rr_1_0_0_14.slots) := by
  refine MetFree.of_bodySF (plainFor_of_name pn_java_lang_Long) hisR ?_
  intro p e s m args below meth c s₁ Bd hml0 hP hK
  obtain ⟨rfl, hZ, hh⟩ := hP
  have hx := Bd.exec
  have hby := Bd.bytes
  have hml : c.maxLocals = 2 := hml0
  have hown : s.vm.findClass "java/lang/Long" = some m.cls := findClass_of_methodNamed Bd.named
  have hnm := (name_of_methodNamed Bd.named Bd.method).1
  have X0 : Stand p l e rr_1_0_0_14 s m #[(.ref a1), .null] below meth c s₁ [] 0 0 := Stand.of_body Bd
  have e0 : s₁.heap = h0 := by rw [← hh, Bd.state]; rfl
  have N0 := Fr.nil n0
  have pre0 : ∀ t, Steps p.tables e below (s₁.setTop (mkF m 0 #[.val (.ref a1), .val .null] [])) t → Steps p.tables e below (s₁.setTop (entryFrame m #[(.ref a1), .null] 2)) t := fun t k => castTop (ef_14_RN m a1) k
  obtain ⟨fsq, hr, hrun, hended, hW, hsame⟩ := X0.leave (v := some (.int (0 : Int32))) (fun h => by rw [Bd.returns] at h; cases h)
  refine ⟨_, _, pre0 _ ?_, hrun, hended, _, _, rfl, ?_, ⟨_, rfl⟩, hW, hsame.mono (by decide) (by decide)⟩
  · show Steps p.tables e below (s₁.setTop (mkF m 0 #[.val (.ref a1), .val .null] [])) _
    refine XS.aloadN X0.here hx rfl (hb hby d14_0) rfl rfl ?_
    refine X0.instanceofNull hx (g := (mkF m 1 #[.val (.ref a1), .val .null] [.null])) rfl rfl (hb hby d14_1) _ ?_
    refine XS.ifYes X0.here hx rfl (pc0 := 4) (pc' := 28) rfl (hb hby d14_4) rfl ((if0 _ _).trans (teq (rfl : (0 : Int32) = (0 : Int32))).1) (by decide) (by decide) ?_
    refine XS.iconst X0.here hx rfl (hb hby d14_28) ?_
    show Steps p.tables e below (s₁.setTop (mkF m 29 #[.val (.ref a1), .val .null] [(.int (0 : Int32))])) _
    exact retN X0 hx (t := .boolean) Bd.returns (by simp) (hb hby d14_29) hr
  · show QP (some (.int (0 : Int32))) h0 n0 _ s₁.heap _
    rw [e0]
    exact ⟨rfl, N0, rfl⟩
theorem d14_7 : decode jdk_35_method_37_code 7 = .ok (.aload_n 0, 1) := by decide +kernel
theorem d14_8 : decode jdk_35_method_37_code 8 = .ok (.getfield 273, 3) := by decide +kernel
theorem d14_11 : decode jdk_35_method_37_code 11 = .ok (.aload_n 1, 1) := by decide +kernel
theorem d14_12 : decode jdk_35_method_37_code 12 = .ok (.checkcast 1, 3) := by decide +kernel
theorem pd_6 : parseMethodDescriptor "()J" = some ⟨[], some .long⟩ := by decide +kernel
theorem d14_15 : decode jdk_35_method_37_code 15 = .ok (.invokevirtual 280, 3) := by decide +kernel
theorem d14_18 : decode jdk_35_method_37_code 18 = .ok (.lcmp, 1) := by decide +kernel
theorem d14_19 : decode jdk_35_method_37_code 19 = .ok (.ifCond .ne 7, 3) := by decide +kernel
theorem d14_26 : decode jdk_35_method_37_code 26 = .ok (.iconst 0, 1) := by decide +kernel
theorem d14_27 : decode jdk_35_method_37_code 27 = .ok (.ireturn, 1) := by decide +kernel
theorem ef_14 (m : MethodId) (x0 : Addr) (x1 : Addr) : entryFrame m #[(.ref x0), (.ref x1)] 2 = mkF m 0 #[.val (.ref x0), .val (.ref x1)] [] := by first | (simp [entryFrame, mkF, argsToLocals, Value.category]; done) | rfl
set_option maxRecDepth 65536 in
set_option maxHeartbeats 40000000 in
theorem rm14_ft (l : Launch) (Z : State) (a0 : Array Value) (hw : ∀ d ∈ tables_1, d.before a0 Z = true) (ws : List Jvm.Cond) (a1 : Addr) (v1 : Int64) (a2 : Addr) (v2 : Int64) (h0 : Heap) (n0 : Nat) (Z0 : n0 ≤ h0.size) (F1 : Fld Z h0 a1 "java/lang/Long" "value" "J" (.long v1)) (EA2 : Exa Z h0 a2 "java/lang/Long") (F2 : Fld Z h0 a2 "java/lang/Long" "value" "J" (.long v2)) (hc19 : ¬ (v1 = v2)) :
    MetFree l nm_14 (head1 (Jvm.Cond.code nm_14 jdk_35_method_37_code 2 (some .boolean) :: ws) rr_1_0_0_14) (fun aa zU => aa = #[(.ref a1), (.ref a2)] ∧ Z.Warmed39 zU.vm ∧ zU.heap = h0) (fun _ _ _ _ _ => True) (fun _ zU zo zU' => ∃ zv zL, zo = .returned zv ∧ QP (some (.int (0 : Int32))) h0 n0 zv zU'.heap zL ∧ FrameEnd zU zo zU' zL rr_1_0_0_14.cells rr_1_0_0_14.slots) := by
  refine MetFree.of_bodySF (plainFor_of_name pn_java_lang_Long) hisR ?_
  intro p e s m args below meth c s₁ Bd hml0 hP hK
  obtain ⟨rfl, hZ, hh⟩ := hP
  have hx := Bd.exec
  have hby := Bd.bytes
  have hml : c.maxLocals = 2 := hml0
  have hown : s.vm.findClass "java/lang/Long" = some m.cls := findClass_of_methodNamed Bd.named
  have hnm := (name_of_methodNamed Bd.named Bd.method).1
  have X0 : Stand p l e rr_1_0_0_14 s m #[(.ref a1), (.ref a2)] below meth c s₁ [] 0 0 := Stand.of_body Bd
  have e0 : s₁.heap = h0 := by rw [← hh, Bd.state]; rfl
  have N0 := Fr.nil n0
  have pre0 : ∀ t, Steps p.tables e below (s₁.setTop (mkF m 0 #[.val (.ref a1), .val (.ref a2)] [])) t → Steps p.tables e below (s₁.setTop (entryFrame m #[(.ref a1), (.ref a2)] 2)) t := fun t k => castTop (ef_14 m a1 a2) k
  obtain ⟨T1, X1, e1, st1⟩ := instY X0 hx hZ hown (ow hw 31 rfl) e0 (Ins.self EA2) (g := (mkF m 1 #[.val (.ref a1), .val (.ref a2)] [(.ref a2)])) rfl rfl (hb hby d14_1)
  obtain ⟨T2, X2, e2, st2⟩ := getF X1 hx hZ hown (host := "") (Or.inl (ow hw 44 rfl)) Via.refl e1 F1 (g := (mkF m 8 #[.val (.ref a1), .val (.ref a2)] [(.ref a1)])) rfl rfl (hb hby d14_8)
  obtain ⟨T3, X3, e3, st3⟩ := castY X2 hx hZ hown (ow hw 31 rfl) e2 (Ins.self EA2) (g := (mkF m 12 #[.val (.ref a1), .val (.ref a2)] [(.ref a2), (.long v1)])) rfl rfl (hb hby d14_12)
  obtain ⟨cq4, kq4, q4a, q4b, q4c⟩ := isOf hZ e3 EA2
  obtain ⟨_, _, ⟨T4, L4, k4, n4⟩, -, X4, ⟨Lc4, hQ4, l4, y4, z4⟩, st4⟩ := X3.virtualBack hx (y := nm_9) (z := nm_9) hown (mvT hZ (ow hw 85 rfl)) (mvT hZ (ow hw 58 rfl)) (notFace_of_selects (args := #[]) (mvT hZ (ow hw 60 rfl))) (mvT hZ (ow hw 60 rfl)) (mvT hZ (ow hw 59 rfl)) (by decide) (backOf (W := 2) (rm9 l Z a0 hw [] a2 v2 h0 n0 Z0 F2) hZ (ow hw 61 rfl) (ow hw 25 rfl) (by decide) (by decide)) q4a q4c (g := (mkF m 15 #[.val (.ref a1), .val (.ref a2)] [(.ref a2), (.long v1)])) rfl (by rw [hml]; rfl) (Steps.refl _) (argsL := []) (rest := [(.long v1)]) (lenOf pd_6 rfl) rfl (by show 2 * 0 + _ ≤ _; exact Nat.le_of_eq rfl) (hb hby d14_15) (fun _ _ => ⟨rfl, e3, (by decide : 0 + 0 ≤ _), (by decide : 0 + 0 ≤ _)⟩)
  dsimp only [Pt.U, Pt.locs, Pt.cells, Pt.slots] at X4 l4 y4 z4 st4 hQ4
  subst l4 y4 z4
  obtain ⟨rfl, N4q, e4⟩ := hQ4
  have N4 := Fr.app N0 N4q
  obtain ⟨fsq, hr, hrun, hended, hW, hsame⟩ := X4.leave (v := some (.int (0 : Int32))) (fun h => by rw [Bd.returns] at h; cases h)
  refine ⟨_, _, pre0 _ ?_, hrun, hended, _, _, rfl, ?_, ⟨_, rfl⟩, hW, hsame.mono (by decide) (by decide)⟩
  · show Steps p.tables e below (s₁.setTop (mkF m 0 #[.val (.ref a1), .val (.ref a2)] [])) _
    refine XS.aloadN X0.here hx rfl (hb hby d14_0) rfl rfl ?_
    refine st1 _ ?_
    refine XS.ifNo X1.here hx rfl (hb hby d14_4) rfl ((if0 _ _).trans (feq ((by decide) : ¬ ((1 : Int32) = (0 : Int32)))).1) ?_
    refine XS.aloadN X1.here hx rfl (hb hby d14_7) rfl rfl ?_
    refine st2 _ ?_
    refine XS.aloadN X2.here hx rfl (hb hby d14_11) rfl rfl ?_
    refine st3 _ ?_
    refine st4.trans ?_
    refine XS.lcmp X4.here hx rfl (hb hby d14_18) rfl ?_
    show Steps p.tables e below (T4.setTop (mkF m 19 #[.val (.ref a1), .val (.ref a2)] [(.int (lcmpW v1 v2))])) _
    refine XS.ifYes X4.here hx rfl (pc0 := 19) (pc' := 26) rfl (hb hby d14_19) rfl ((if0 _ _).trans (feq (fun z => hc19 ((lw_eq _ _).mp z))).2) (by decide) (by decide) ?_
    refine XS.iconst X4.here hx rfl (hb hby d14_26) ?_
    show Steps p.tables e below (T4.setTop (mkF m 27 #[.val (.ref a1), .val (.ref a2)] [(.int (0 : Int32))])) _
    exact retN X4 hx (t := .boolean) Bd.returns (by simp) (hb hby d14_27) hr
  · show QP (some (.int (0 : Int32))) h0 n0 _ T4.heap _
    rw [e4]
    exact ⟨rfl, N4, rfl⟩
theorem d14_22 : decode jdk_35_method_37_code 22 = .ok (.iconst 1, 1) := by decide +kernel
theorem d14_23 : decode jdk_35_method_37_code 23 = .ok (.goto 4, 3) := by decide +kernel
set_option maxRecDepth 65536 in
set_option maxHeartbeats 40000000 in
theorem rm14_ff (l : Launch) (Z : State) (a0 : Array Value) (hw : ∀ d ∈ tables_1, d.before a0 Z = true) (ws : List Jvm.Cond) (a1 : Addr) (v1 : Int64) (a2 : Addr) (v2 : Int64) (h0 : Heap) (n0 : Nat) (Z0 : n0 ≤ h0.size) (F1 : Fld Z h0 a1 "java/lang/Long" "value" "J" (.long v1)) (EA2 : Exa Z h0 a2 "java/lang/Long") (F2 : Fld Z h0 a2 "java/lang/Long" "value" "J" (.long v2)) (hc19 : v1 = v2) :
    MetFree l nm_14 (head1 (Jvm.Cond.code nm_14 jdk_35_method_37_code 2 (some .boolean) :: ws) rr_1_0_0_14) (fun aa zU => aa = #[(.ref a1), (.ref a2)] ∧ Z.Warmed39 zU.vm ∧ zU.heap = h0) (fun _ _ _ _ _ => True) (fun _ zU zo zU' => ∃ zv zL, zo = .returned zv ∧ QP (some (.int (1 : Int32))) h0 n0 zv zU'.heap zL ∧ FrameEnd zU zo zU' zL rr_1_0_0_14.cells rr_1_0_0_14.slots) := by
  refine MetFree.of_bodySF (plainFor_of_name pn_java_lang_Long) hisR ?_
  intro p e s m args below meth c s₁ Bd hml0 hP hK
  obtain ⟨rfl, hZ, hh⟩ := hP
  have hx := Bd.exec
  have hby := Bd.bytes
  have hml : c.maxLocals = 2 := hml0
  have hown : s.vm.findClass "java/lang/Long" = some m.cls := findClass_of_methodNamed Bd.named
  have hnm := (name_of_methodNamed Bd.named Bd.method).1
  have X0 : Stand p l e rr_1_0_0_14 s m #[(.ref a1), (.ref a2)] below meth c s₁ [] 0 0 := Stand.of_body Bd
  have e0 : s₁.heap = h0 := by rw [← hh, Bd.state]; rfl
  have N0 := Fr.nil n0
  have pre0 : ∀ t, Steps p.tables e below (s₁.setTop (mkF m 0 #[.val (.ref a1), .val (.ref a2)] [])) t → Steps p.tables e below (s₁.setTop (entryFrame m #[(.ref a1), (.ref a2)] 2)) t := fun t k => castTop (ef_14 m a1 a2) k
  obtain ⟨T1, X1, e1, st1⟩ := instY X0 hx hZ hown (ow hw 31 rfl) e0 (Ins.self EA2) (g := (mkF m 1 #[.val (.ref a1), .val (.ref a2)] [(.ref a2)])) rfl rfl (hb hby d14_1)
  obtain ⟨T2, X2, e2, st2⟩ := getF X1 hx hZ hown (host := "") (Or.inl (ow hw 44 rfl)) Via.refl e1 F1 (g := (mkF m 8 #[.val (.ref a1), .val (.ref a2)] [(.ref a1)])) rfl rfl (hb hby d14_8)
  obtain ⟨T3, X3, e3, st3⟩ := castY X2 hx hZ hown (ow hw 31 rfl) e2 (Ins.self EA2) (g := (mkF m 12 #[.val (.ref a1), .val (.ref a2)] [(.ref a2), (.long v1)])) rfl rfl (hb hby d14_12)
  obtain ⟨cq4, kq4, q4a, q4b, q4c⟩ := isOf hZ e3 EA2
  obtain ⟨_, _, ⟨T4, L4, k4, n4⟩, -, X4, ⟨Lc4, hQ4, l4, y4, z4⟩, st4⟩ := X3.virtualBack hx (y := nm_9) (z := nm_9) hown (mvT hZ (ow hw 85 rfl)) (mvT hZ (ow hw 58 rfl)) (notFace_of_selects (args := #[]) (mvT hZ (ow hw 60 rfl))) (mvT hZ (ow hw 60 rfl)) (mvT hZ (ow hw 59 rfl)) (by decide) (backOf (W := 2) (rm9 l Z a0 hw [] a2 v2 h0 n0 Z0 F2) hZ (ow hw 61 rfl) (ow hw 25 rfl) (by decide) (by decide)) q4a q4c (g := (mkF m 15 #[.val (.ref a1), .val (.ref a2)] [(.ref a2), (.long v1)])) rfl (by rw [hml]; rfl) (Steps.refl _) (argsL := []) (rest := [(.long v1)]) (lenOf pd_6 rfl) rfl (by show 2 * 0 + _ ≤ _; exact Nat.le_of_eq rfl) (hb hby d14_15) (fun _ _ => ⟨rfl, e3, (by decide : 0 + 0 ≤ _), (by decide : 0 + 0 ≤ _)⟩)
  dsimp only [Pt.U, Pt.locs, Pt.cells, Pt.slots] at X4 l4 y4 z4 st4 hQ4
  subst l4 y4 z4
  obtain ⟨rfl, N4q, e4⟩ := hQ4
  have N4 := Fr.app N0 N4q
  obtain ⟨fsq, hr, hrun, hended, hW, hsame⟩ := X4.leave (v := some (.int (1 : Int32))) (fun h => by rw [Bd.returns] at h; cases h)
  refine ⟨_, _, pre0 _ ?_, hrun, hended, _, _, rfl, ?_, ⟨_, rfl⟩, hW, hsame.mono (by decide) (by decide)⟩
  · show Steps p.tables e below (s₁.setTop (mkF m 0 #[.val (.ref a1), .val (.ref a2)] [])) _
    refine XS.aloadN X0.here hx rfl (hb hby d14_0) rfl rfl ?_
    refine st1 _ ?_
    refine XS.ifNo X1.here hx rfl (hb hby d14_4) rfl ((if0 _ _).trans (feq ((by decide) : ¬ ((1 : Int32) = (0 : Int32)))).1) ?_
    refine XS.aloadN X1.here hx rfl (hb hby d14_7) rfl rfl ?_
    refine st2 _ ?_
    refine XS.aloadN X2.here hx rfl (hb hby d14_11) rfl rfl ?_
    refine st3 _ ?_
    refine st4.trans ?_
    refine XS.lcmp X4.here hx rfl (hb hby d14_18) rfl ?_
    show Steps p.tables e below (T4.setTop (mkF m 19 #[.val (.ref a1), .val (.ref a2)] [(.int (lcmpW v1 v2))])) _
    refine XS.ifNo X4.here hx rfl (hb hby d14_19) rfl ((if0 _ _).trans (teq ((lw_eq _ _).mpr hc19)).2) ?_
    refine XS.iconst X4.here hx rfl (hb hby d14_22) ?_
    refine XS.goto X4.here hx rfl (pc0 := 23) (pc' := 27) rfl (hb hby d14_23) (by decide) (by decide) ?_
    show Steps p.tables e below (T4.setTop (mkF m 27 #[.val (.ref a1), .val (.ref a2)] [(.int (1 : Int32))])) _
    exact retN X4 hx (t := .boolean) Bd.returns (by simp) (hb hby d14_27) hr
  · show QP (some (.int (1 : Int32))) h0 n0 _ T4.heap _
    rw [e4]
    exact ⟨rfl, N4, rfl⟩
theorem rm14 (l : Launch) (Z : State) (a0 : Array Value) (hw : ∀ d ∈ tables_1, d.before a0 Z = true) (ws : List Jvm.Cond) (a1 : Addr) (v1 : Int64) (r : Value) (o : Option Int64) (h0 : Heap) (n0 : Nat) (Z0 : n0 ≤ h0.size) (F1 : Fld Z h0 a1 "java/lang/Long" "value" "J" (.long v1)) (Lr : LR Z h0 r o) :
    MetFree l nm_14 (head1 (Jvm.Cond.code nm_14 jdk_35_method_37_code 2 (some .boolean) :: ws) rr_1_0_0_14) (fun aa zU => aa = #[(.ref a1), r] ∧ Z.Warmed39 zU.vm ∧ zU.heap = h0) (fun _ _ _ _ _ => True) (fun _ zU zo zU' => ∃ zv zL, zo = .returned zv ∧ QP (some (.int (if o = some v1 then (1 : Int32) else 0))) h0 n0 zv zU'.heap zL ∧ FrameEnd zU zo zU' zL rr_1_0_0_14.cells rr_1_0_0_14.slots) := by
  rcases Lr with ⟨rfl, rfl⟩ | ⟨a2, v2, rfl, rfl, E2, F2⟩
  · rw [if_neg nofun]; exact rm14_N l Z a0 hw ws a1 v1 h0 n0 Z0
  by_cases q : v1 = v2
  · rw [if_pos (congrArg some q.symm)]; exact rm14_ff l Z a0 hw ws a1 v1 a2 v2 h0 n0 Z0 F1 E2 F2 q
  · rw [if_neg (fun z => q (Option.some.inj z).symm)]; exact rm14_ft l Z a0 hw ws a1 v1 a2 v2 h0 n0 Z0 F1 E2 F2 q
theorem d8_0 : decode prog_27_method_6_code 0 = .ok (.lload_n 1, 1) := by decide +kernel
theorem d8_1 : decode prog_27_method_6_code 1 = .ok (.lstore 5, 2) := by decide +kernel
theorem d8_3 : decode prog_27_method_6_code 3 = .ok (.ldc2_w 9, 3) := by decide +kernel
theorem d8_6 : decode prog_27_method_6_code 6 = .ok (.lstore 7, 2) := by decide +kernel
theorem d8_8 : decode prog_27_method_6_code 8 = .ok (.aload_n 3, 1) := by decide +kernel
theorem d8_9 : decode prog_27_method_6_code 9 = .ok (.ifnull 25, 3) := by decide +kernel
theorem d8_34 : decode prog_27_method_6_code 34 = .ok (.lload 5, 2) := by decide +kernel
theorem d8_36 : decode prog_27_method_6_code 36 = .ok (.aload_n 0, 1) := by decide +kernel
theorem d8_37 : decode prog_27_method_6_code 37 = .ok (.getfield 11, 3) := by decide +kernel
theorem d8_40 : decode prog_27_method_6_code 40 = .ok (.lcmp, 1) := by decide +kernel
theorem d8_41 : decode prog_27_method_6_code 41 = .ok (.ifCond .gt 23, 3) := by decide +kernel
theorem d8_64 : decode prog_27_method_6_code 64 = .ok (.aload_n 0, 1) := by decide +kernel
theorem d8_65 : decode prog_27_method_6_code 65 = .ok (.lload 5, 2) := by decide +kernel
theorem d8_67 : decode prog_27_method_6_code 67 = .ok (.putfield 11, 3) := by decide +kernel
theorem d8_70 : decode prog_27_method_6_code 70 = .ok (.aload_n 0, 1) := by decide +kernel
theorem d8_71 : decode prog_27_method_6_code 71 = .ok (.lload 7, 2) := by decide +kernel
theorem d8_73 : decode prog_27_method_6_code 73 = .ok (.putfield 17, 3) := by decide +kernel
theorem d8_76 : decode prog_27_method_6_code 76 = .ok (.return_, 1) := by decide +kernel
theorem ef_8_RJNN (m : MethodId) (x0 : Addr) (x1 : Int64) : entryFrame m #[(.ref x0), (.long x1), .null, .null] 9 = mkF m 0 #[.val (.ref x0), .val (.long x1), .second, .val .null, .val .null, .unset, .unset, .unset, .unset] [] := by first | (simp [entryFrame, mkF, argsToLocals, Value.category]; done) | rfl
abbrev nm_8 : MethodName := ⟨"com/example/keyed_work_queue/keyedworkqueue/Pending", "raiseFloor", "(JLjava/lang/Long;Ljava/lang/Long;)V"⟩
set_option maxRecDepth 65536 in
set_option maxHeartbeats 40000000 in
theorem rm8_N_gt (l : Launch) (Z : State) (a0 : Array Value) (hw : ∀ d ∈ tables_1, d.before a0 Z = true) (ws : List Jvm.Cond) (old : Int64) (pq : Addr) (fx : Int64) (fs : Int64) (jr : Value) (sn : Value) (h0 : Heap) (n0 : Nat) (Z0 : n0 ≤ h0.size) (g0_pq : n0 ≤ pq) (PA : PdAt Z h0 pq fx fs jr sn) (hc41 : fx < old) :
    MetFree l nm_8 (head1 (Jvm.Cond.code nm_8 prog_27_method_6_code 9 none :: ws) rr_1_0_0_12) (fun aa zU => aa = #[(.ref pq), (.long old), .null, .null] ∧ Z.Warmed39 zU.vm ∧ zU.heap = h0) (fun _ _ _ _ _ => True) (fun _ zU zo zU' => ∃ zv zL, zo = .returned zv ∧ QRF Z pq old (-9223372036854775808 : Int64) jr sn h0 n0 zv zU'.heap zL ∧ FrameEnd zU zo zU' zL rr_1_0_0_12.cells rr_1_0_0_12.slots) := by
  refine MetFree.of_bodySF (plainFor_of_name pn_com_example_keyed_work_queue_keyedworkqueue_Pending) hisR ?_
  intro p e s m args below meth c s₁ Bd hml0 hP hK
  obtain ⟨rfl, hZ, hh⟩ := hP
  have hx := Bd.exec
  have hby := Bd.bytes
  have hml : c.maxLocals = 9 := hml0
  have hown : s.vm.findClass "com/example/keyed_work_queue/keyedworkqueue/Pending" = some m.cls := findClass_of_methodNamed Bd.named
  have hnm := (name_of_methodNamed Bd.named Bd.method).1
  have X0 : Stand p l e rr_1_0_0_12 s m #[(.ref pq), (.long old), .null, .null] below meth c s₁ [] 0 0 := Stand.of_body Bd
  have e0 : s₁.heap = h0 := by rw [← hh, Bd.state]; rfl
  have N0 := Fr.nil n0
  have pre0 : ∀ t, Steps p.tables e below (s₁.setTop (mkF m 0 #[.val (.ref pq), .val (.long old), .second, .val .null, .val .null, .unset, .unset, .unset, .unset] [])) t → Steps p.tables e below (s₁.setTop (entryFrame m #[(.ref pq), (.long old), .null, .null] 9)) t := fun t k => castTop (ef_8_RJNN m pq old) k
  obtain ⟨Epd1, Fapd1, Fbpd1, Fcpd1, Fdpd1⟩ := PA
  obtain ⟨T2, X2, e2, st2⟩ := getF X0 hx hZ hown (host := "") (Or.inl (ow hw 10 rfl)) Via.refl e0 Fapd1 (g := (mkF m 37 #[.val (.ref pq), .val (.long old), .second, .val .null, .val .null, .val (.long old), .second, .val (.long (-9223372036854775808 : Int64)), .second] [(.ref pq), (.long old)])) rfl rfl (hb hby d8_37)
  obtain ⟨T3, h3, X3, e3, W3, st3⟩ := putF X2 hx hZ hown (host := "") (Or.inl (ow hw 10 rfl)) Via.refl e2 Fapd1 Epd1 (Or.inl (ow hw 11 rfl)) (ow hw 1 rfl) (ty := .long) (by decide) rfl rfl (g := (mkF m 67 #[.val (.ref pq), .val (.long old), .second, .val .null, .val .null, .val (.long old), .second, .val (.long (-9223372036854775808 : Int64)), .second] [(.long old), (.ref pq)])) rfl rfl (hb hby d8_67)
  have Fw3 := Fapd1.same W3
  have N3 := Fr.snoc X3 N0 g0_pq
  have c5 := Fbpd1.other W3 (Or.inr (slot_ne (Or.inl (ow hw 13 rfl)) (Or.inl (ow hw 11 rfl)) (by decide) (t := .long) (t' := .long) (by decide) (by decide)))
  have c6 := Epd1.wr W3
  obtain ⟨T4, h4, X4, e4, W4, st4⟩ := putF X3 hx hZ hown (host := "") (Or.inl (ow hw 12 rfl)) Via.refl e3 c5 c6 (Or.inl (ow hw 13 rfl)) (ow hw 1 rfl) (ty := .long) (by decide) rfl rfl (g := (mkF m 73 #[.val (.ref pq), .val (.long old), .second, .val .null, .val .null, .val (.long old), .second, .val (.long (-9223372036854775808 : Int64)), .second] [(.long (-9223372036854775808 : Int64)), (.ref pq)])) rfl rfl (hb hby d8_73)
  have Fw4 := c5.same W4
  have N4 := Fr.snoc X4 N3 g0_pq
  have kp7 : Keep h0 h4 [pq] := (((Keep.refl h0 [pq]).wr W3 (Or.inl (List.mem_of_getElem? (i := 0) rfl))).wr W4 (Or.inl (List.mem_of_getElem? (i := 0) rfl)))
  have c8 := c6.wr W4
  have c9 := Fw3.other W4 (Or.inr (slot_ne (Or.inl (ow hw 11 rfl)) (Or.inl (ow hw 13 rfl)) (by decide) (t := .long) (t' := .long) (by decide) (by decide)))
  have c10 := Fcpd1.other W3 (Or.inr (slot_ne (Or.inl (ow hw 52 rfl)) (Or.inl (ow hw 11 rfl)) (by decide) (t := (.object "java/lang/Long")) (t' := .long) (by decide) (by decide)))
  have c11 := c10.other W4 (Or.inr (slot_ne (Or.inl (ow hw 52 rfl)) (Or.inl (ow hw 13 rfl)) (by decide) (t := (.object "java/lang/Long")) (t' := .long) (by decide) (by decide)))
  have c12 := Fdpd1.other W3 (Or.inr (slot_ne (Or.inl (ow hw 15 rfl)) (Or.inl (ow hw 11 rfl)) (by decide) (t := .boolean) (t' := .long) (by decide) (by decide)))
  have c13 := c12.other W4 (Or.inr (slot_ne (Or.inl (ow hw 15 rfl)) (Or.inl (ow hw 13 rfl)) (by decide) (t := .boolean) (t' := .long) (by decide) (by decide)))
  obtain ⟨fsq, hr, hrun, hended, hW, hsame⟩ := X4.leave (v := none) (fun _ => rfl)
  refine ⟨_, _, pre0 _ ?_, hrun, hended, _, _, rfl, ?_, ⟨_, rfl⟩, hW, hsame.mono (by decide) (by decide)⟩
  · show Steps p.tables e below (s₁.setTop (mkF m 0 #[.val (.ref pq), .val (.long old), .second, .val .null, .val .null, .unset, .unset, .unset, .unset] [])) _
    refine XS.lloadN X0.here hx rfl (hb hby d8_0) rfl ?_
    refine XS.lstore X0.here hx rfl (hb hby d8_1) rfl (l' := #[.val (.ref pq), .val (.long old), .second, .val .null, .val .null, .val (.long old), .second, .unset, .unset]) rfl ?_
    refine X0.ldc2Long hx hown (mvT hZ (ow hw 9 rfl)) (g := (mkF m 3 #[.val (.ref pq), .val (.long old), .second, .val .null, .val .null, .val (.long old), .second, .unset, .unset] [])) rfl (hb hby d8_3) _ ?_
    refine XS.lstore X0.here hx rfl (hb hby d8_6) rfl (l' := #[.val (.ref pq), .val (.long old), .second, .val .null, .val .null, .val (.long old), .second, .val (.long (-9223372036854775808 : Int64)), .second]) rfl ?_
    refine XS.aloadN X0.here hx rfl (hb hby d8_8) rfl rfl ?_
    refine XS.ifnullYes X0.here hx rfl (pc0 := 9) (pc' := 34) rfl (hb hby d8_9) rfl (by decide) (by decide) ?_
    refine XS.lload X0.here hx rfl (hb hby d8_34) rfl ?_
    refine XS.aloadN X0.here hx rfl (hb hby d8_36) rfl rfl ?_
    refine st2 _ ?_
    show Steps p.tables e below (T2.setTop (mkF m 40 #[.val (.ref pq), .val (.long old), .second, .val .null, .val .null, .val (.long old), .second, .val (.long (-9223372036854775808 : Int64)), .second] [(.long fx), (.long old)])) _
    refine XS.lcmp X2.here hx rfl (hb hby d8_40) rfl ?_
    refine XS.ifYes X2.here hx rfl (pc0 := 41) (pc' := 64) rfl (hb hby d8_41) rfl ((if0 _ _).trans (tlt ((lw_gt _ _).mpr hc41)).2.2.1) (by decide) (by decide) ?_
    refine XS.aloadN X2.here hx rfl (hb hby d8_64) rfl rfl ?_
    refine XS.lload X2.here hx rfl (hb hby d8_65) rfl ?_
    refine st3 _ ?_
    refine XS.aloadN X3.here hx rfl (hb hby d8_70) rfl rfl ?_
    refine XS.lload X3.here hx rfl (hb hby d8_71) rfl ?_
    refine st4 _ ?_
    show Steps p.tables e below (T4.setTop (mkF m 76 #[.val (.ref pq), .val (.long old), .second, .val .null, .val .null, .val (.long old), .second, .val (.long (-9223372036854775808 : Int64)), .second] [])) _
    exact X4.returnOut hx Bd.returns (hb hby d8_76) hr
  · show QRF Z pq old (-9223372036854775808 : Int64) jr sn h0 n0 _ T4.heap _
    rw [e4]
    exact ⟨rfl, N4, kp7, ⟨c8, c9, Fw4, c11, c13⟩⟩
theorem d8_44 : decode prog_27_method_6_code 44 = .ok (.lload 5, 2) := by decide +kernel
theorem d8_46 : decode prog_27_method_6_code 46 = .ok (.aload_n 0, 1) := by decide +kernel
theorem d8_47 : decode prog_27_method_6_code 47 = .ok (.getfield 11, 3) := by decide +kernel
theorem d8_50 : decode prog_27_method_6_code 50 = .ok (.lcmp, 1) := by decide +kernel
theorem d8_51 : decode prog_27_method_6_code 51 = .ok (.ifCond .ne 25, 3) := by decide +kernel
set_option maxRecDepth 65536 in
set_option maxHeartbeats 40000000 in
theorem rm8_N_ne (l : Launch) (Z : State) (a0 : Array Value) (hw : ∀ d ∈ tables_1, d.before a0 Z = true) (ws : List Jvm.Cond) (old : Int64) (pq : Addr) (fx : Int64) (fs : Int64) (jr : Value) (sn : Value) (h0 : Heap) (n0 : Nat) (Z0 : n0 ≤ h0.size) (g0_pq : n0 ≤ pq) (PA : PdAt Z h0 pq fx fs jr sn) (hc41 : ¬ (fx < old)) (hc51 : ¬ (old = fx)) :
    MetFree l nm_8 (head1 (Jvm.Cond.code nm_8 prog_27_method_6_code 9 none :: ws) rr_1_0_0_12) (fun aa zU => aa = #[(.ref pq), (.long old), .null, .null] ∧ Z.Warmed39 zU.vm ∧ zU.heap = h0) (fun _ _ _ _ _ => True) (fun _ zU zo zU' => ∃ zv zL, zo = .returned zv ∧ QRF Z pq fx fs jr sn h0 n0 zv zU'.heap zL ∧ FrameEnd zU zo zU' zL rr_1_0_0_12.cells rr_1_0_0_12.slots) := by
  refine MetFree.of_bodySF (plainFor_of_name pn_com_example_keyed_work_queue_keyedworkqueue_Pending) hisR ?_
  intro p e s m args below meth c s₁ Bd hml0 hP hK
  obtain ⟨rfl, hZ, hh⟩ := hP
  have hx := Bd.exec
  have hby := Bd.bytes
  have hml : c.maxLocals = 9 := hml0
  have hown : s.vm.findClass "com/example/keyed_work_queue/keyedworkqueue/Pending" = some m.cls := findClass_of_methodNamed Bd.named
  have hnm := (name_of_methodNamed Bd.named Bd.method).1
  have X0 : Stand p l e rr_1_0_0_12 s m #[(.ref pq), (.long old), .null, .null] below meth c s₁ [] 0 0 := Stand.of_body Bd
  have e0 : s₁.heap = h0 := by rw [← hh, Bd.state]; rfl
  have N0 := Fr.nil n0
  have pre0 : ∀ t, Steps p.tables e below (s₁.setTop (mkF m 0 #[.val (.ref pq), .val (.long old), .second, .val .null, .val .null, .unset, .unset, .unset, .unset] [])) t → Steps p.tables e below (s₁.setTop (entryFrame m #[(.ref pq), (.long old), .null, .null] 9)) t := fun t k => castTop (ef_8_RJNN m pq old) k
  obtain ⟨Epd1, Fapd1, Fbpd1, Fcpd1, Fdpd1⟩ := PA
  obtain ⟨T2, X2, e2, st2⟩ := getF X0 hx hZ hown (host := "") (Or.inl (ow hw 10 rfl)) Via.refl e0 Fapd1 (g := (mkF m 37 #[.val (.ref pq), .val (.long old), .second, .val .null, .val .null, .val (.long old), .second, .val (.long (-9223372036854775808 : Int64)), .second] [(.ref pq), (.long old)])) rfl rfl (hb hby d8_37)
  obtain ⟨T3, X3, e3, st3⟩ := getF X2 hx hZ hown (host := "") (Or.inl (ow hw 10 rfl)) Via.refl e2 Fapd1 (g := (mkF m 47 #[.val (.ref pq), .val (.long old), .second, .val .null, .val .null, .val (.long old), .second, .val (.long (-9223372036854775808 : Int64)), .second] [(.ref pq), (.long old)])) rfl rfl (hb hby d8_47)
  have kp4 : Keep h0 h0 [pq] := (Keep.refl h0 [pq])
  obtain ⟨fsq, hr, hrun, hended, hW, hsame⟩ := X3.leave (v := none) (fun _ => rfl)
  refine ⟨_, _, pre0 _ ?_, hrun, hended, _, _, rfl, ?_, ⟨_, rfl⟩, hW, hsame.mono (by decide) (by decide)⟩
  · show Steps p.tables e below (s₁.setTop (mkF m 0 #[.val (.ref pq), .val (.long old), .second, .val .null, .val .null, .unset, .unset, .unset, .unset] [])) _
    refine XS.lloadN X0.here hx rfl (hb hby d8_0) rfl ?_
    refine XS.lstore X0.here hx rfl (hb hby d8_1) rfl (l' := #[.val (.ref pq), .val (.long old), .second, .val .null, .val .null, .val (.long old), .second, .unset, .unset]) rfl ?_
    refine X0.ldc2Long hx hown (mvT hZ (ow hw 9 rfl)) (g := (mkF m 3 #[.val (.ref pq), .val (.long old), .second, .val .null, .val .null, .val (.long old), .second, .unset, .unset] [])) rfl (hb hby d8_3) _ ?_
    refine XS.lstore X0.here hx rfl (hb hby d8_6) rfl (l' := #[.val (.ref pq), .val (.long old), .second, .val .null, .val .null, .val (.long old), .second, .val (.long (-9223372036854775808 : Int64)), .second]) rfl ?_
    refine XS.aloadN X0.here hx rfl (hb hby d8_8) rfl rfl ?_
    refine XS.ifnullYes X0.here hx rfl (pc0 := 9) (pc' := 34) rfl (hb hby d8_9) rfl (by decide) (by decide) ?_
    refine XS.lload X0.here hx rfl (hb hby d8_34) rfl ?_
    refine XS.aloadN X0.here hx rfl (hb hby d8_36) rfl rfl ?_
    refine st2 _ ?_
    show Steps p.tables e below (T2.setTop (mkF m 40 #[.val (.ref pq), .val (.long old), .second, .val .null, .val .null, .val (.long old), .second, .val (.long (-9223372036854775808 : Int64)), .second] [(.long fx), (.long old)])) _
    refine XS.lcmp X2.here hx rfl (hb hby d8_40) rfl ?_
    refine XS.ifNo X2.here hx rfl (hb hby d8_41) rfl ((if0 _ _).trans (flt (fun z => hc41 ((lw_gt _ _).mp z))).2.2.1) ?_
    refine XS.lload X2.here hx rfl (hb hby d8_44) rfl ?_
    refine XS.aloadN X2.here hx rfl (hb hby d8_46) rfl rfl ?_
    refine st3 _ ?_
    refine XS.lcmp X3.here hx rfl (hb hby d8_50) rfl ?_
    refine XS.ifYes X3.here hx rfl (pc0 := 51) (pc' := 76) rfl (hb hby d8_51) rfl ((if0 _ _).trans (feq (fun z => hc51 ((lw_eq _ _).mp z))).2) (by decide) (by decide) ?_
    show Steps p.tables e below (T3.setTop (mkF m 76 #[.val (.ref pq), .val (.long old), .second, .val .null, .val .null, .val (.long old), .second, .val (.long (-9223372036854775808 : Int64)), .second] [])) _
    exact X3.returnOut hx Bd.returns (hb hby d8_76) hr
  · show QRF Z pq fx fs jr sn h0 n0 _ T3.heap _
    rw [e3]
    exact ⟨rfl, N0, kp4, ⟨Epd1, Fapd1, Fbpd1, Fcpd1, Fdpd1⟩⟩
theorem d8_54 : decode prog_27_method_6_code 54 = .ok (.lload 7, 2) := by decide +kernel
theorem d8_56 : decode prog_27_method_6_code 56 = .ok (.aload_n 0, 1) := by decide +kernel
theorem d8_57 : decode prog_27_method_6_code 57 = .ok (.getfield 17, 3) := by decide +kernel
theorem d8_60 : decode prog_27_method_6_code 60 = .ok (.lcmp, 1) := by decide +kernel
theorem d8_61 : decode prog_27_method_6_code 61 = .ok (.ifCond .le 15, 3) := by decide +kernel
set_option maxRecDepth 65536 in
set_option maxHeartbeats 40000000 in
theorem rm8_N_le (l : Launch) (Z : State) (a0 : Array Value) (hw : ∀ d ∈ tables_1, d.before a0 Z = true) (ws : List Jvm.Cond) (old : Int64) (pq : Addr) (fx : Int64) (fs : Int64) (jr : Value) (sn : Value) (h0 : Heap) (n0 : Nat) (Z0 : n0 ≤ h0.size) (g0_pq : n0 ≤ pq) (PA : PdAt Z h0 pq fx fs jr sn) (hc41 : ¬ (fx < old)) (hc51 : old = fx) (hc61 : ¬ (fs < (-9223372036854775808 : Int64))) :
    MetFree l nm_8 (head1 (Jvm.Cond.code nm_8 prog_27_method_6_code 9 none :: ws) rr_1_0_0_12) (fun aa zU => aa = #[(.ref pq), (.long old), .null, .null] ∧ Z.Warmed39 zU.vm ∧ zU.heap = h0) (fun _ _ _ _ _ => True) (fun _ zU zo zU' => ∃ zv zL, zo = .returned zv ∧ QRF Z pq fx fs jr sn h0 n0 zv zU'.heap zL ∧ FrameEnd zU zo zU' zL rr_1_0_0_12.cells rr_1_0_0_12.slots) := by
  refine MetFree.of_bodySF (plainFor_of_name pn_com_example_keyed_work_queue_keyedworkqueue_Pending) hisR ?_
  intro p e s m args below meth c s₁ Bd hml0 hP hK
  obtain ⟨rfl, hZ, hh⟩ := hP
  have hx := Bd.exec
  have hby := Bd.bytes
  have hml : c.maxLocals = 9 := hml0
  have hown : s.vm.findClass "com/example/keyed_work_queue/keyedworkqueue/Pending" = some m.cls := findClass_of_methodNamed Bd.named
  have hnm := (name_of_methodNamed Bd.named Bd.method).1
  have X0 : Stand p l e rr_1_0_0_12 s m #[(.ref pq), (.long old), .null, .null] below meth c s₁ [] 0 0 := Stand.of_body Bd
  have e0 : s₁.heap = h0 := by rw [← hh, Bd.state]; rfl
  have N0 := Fr.nil n0
  have pre0 : ∀ t, Steps p.tables e below (s₁.setTop (mkF m 0 #[.val (.ref pq), .val (.long old), .second, .val .null, .val .null, .unset, .unset, .unset, .unset] [])) t → Steps p.tables e below (s₁.setTop (entryFrame m #[(.ref pq), (.long old), .null, .null] 9)) t := fun t k => castTop (ef_8_RJNN m pq old) k
  obtain ⟨Epd1, Fapd1, Fbpd1, Fcpd1, Fdpd1⟩ := PA
  obtain ⟨T2, X2, e2, st2⟩ := getF X0 hx hZ hown (host := "") (Or.inl (ow hw 10 rfl)) Via.refl e0 Fapd1 (g := (mkF m 37 #[.val (.ref pq), .val (.long old), .second, .val .null, .val .null, .val (.long old), .second, .val (.long (-9223372036854775808 : Int64)), .second] [(.ref pq), (.long old)])) rfl rfl (hb hby d8_37)
  obtain ⟨T3, X3, e3, st3⟩ := getF X2 hx hZ hown (host := "") (Or.inl (ow hw 10 rfl)) Via.refl e2 Fapd1 (g := (mkF m 47 #[.val (.ref pq), .val (.long old), .second, .val .null, .val .null, .val (.long old), .second, .val (.long (-9223372036854775808 : Int64)), .second] [(.ref pq), (.long old)])) rfl rfl (hb hby d8_47)
  obtain ⟨T4, X4, e4, st4⟩ := getF X3 hx hZ hown (host := "") (Or.inl (ow hw 12 rfl)) Via.refl e3 Fbpd1 (g := (mkF m 57 #[.val (.ref pq), .val (.long old), .second, .val .null, .val .null, .val (.long old), .second, .val (.long (-9223372036854775808 : Int64)), .second] [(.ref pq), (.long (-9223372036854775808 : Int64))])) rfl rfl (hb hby d8_57)
  have kp5 : Keep h0 h0 [pq] := (Keep.refl h0 [pq])
  obtain ⟨fsq, hr, hrun, hended, hW, hsame⟩ := X4.leave (v := none) (fun _ => rfl)
  refine ⟨_, _, pre0 _ ?_, hrun, hended, _, _, rfl, ?_, ⟨_, rfl⟩, hW, hsame.mono (by decide) (by decide)⟩
  · show Steps p.tables e below (s₁.setTop (mkF m 0 #[.val (.ref pq), .val (.long old), .second, .val .null, .val .null, .unset, .unset, .unset, .unset] [])) _
    refine XS.lloadN X0.here hx rfl (hb hby d8_0) rfl ?_
    refine XS.lstore X0.here hx rfl (hb hby d8_1) rfl (l' := #[.val (.ref pq), .val (.long old), .second, .val .null, .val .null, .val (.long old), .second, .unset, .unset]) rfl ?_
    refine X0.ldc2Long hx hown (mvT hZ (ow hw 9 rfl)) (g := (mkF m 3 #[.val (.ref pq), .val (.long old), .second, .val .null, .val .null, .val (.long old), .second, .unset, .unset] [])) rfl (hb hby d8_3) _ ?_
    refine XS.lstore X0.here hx rfl (hb hby d8_6) rfl (l' := #[.val (.ref pq), .val (.long old), .second, .val .null, .val .null, .val (.long old), .second, .val (.long (-9223372036854775808 : Int64)), .second]) rfl ?_
    refine XS.aloadN X0.here hx rfl (hb hby d8_8) rfl rfl ?_
    refine XS.ifnullYes X0.here hx rfl (pc0 := 9) (pc' := 34) rfl (hb hby d8_9) rfl (by decide) (by decide) ?_
    refine XS.lload X0.here hx rfl (hb hby d8_34) rfl ?_
    refine XS.aloadN X0.here hx rfl (hb hby d8_36) rfl rfl ?_
    refine st2 _ ?_
    show Steps p.tables e below (T2.setTop (mkF m 40 #[.val (.ref pq), .val (.long old), .second, .val .null, .val .null, .val (.long old), .second, .val (.long (-9223372036854775808 : Int64)), .second] [(.long fx), (.long old)])) _
    refine XS.lcmp X2.here hx rfl (hb hby d8_40) rfl ?_
    refine XS.ifNo X2.here hx rfl (hb hby d8_41) rfl ((if0 _ _).trans (flt (fun z => hc41 ((lw_gt _ _).mp z))).2.2.1) ?_
    refine XS.lload X2.here hx rfl (hb hby d8_44) rfl ?_
    refine XS.aloadN X2.here hx rfl (hb hby d8_46) rfl rfl ?_
    refine st3 _ ?_
    refine XS.lcmp X3.here hx rfl (hb hby d8_50) rfl ?_
    refine XS.ifNo X3.here hx rfl (hb hby d8_51) rfl ((if0 _ _).trans (teq ((lw_eq _ _).mpr hc51)).2) ?_
    refine XS.lload X3.here hx rfl (hb hby d8_54) rfl ?_
    refine XS.aloadN X3.here hx rfl (hb hby d8_56) rfl rfl ?_
    show Steps p.tables e below (T3.setTop (mkF m 57 #[.val (.ref pq), .val (.long old), .second, .val .null, .val .null, .val (.long old), .second, .val (.long (-9223372036854775808 : Int64)), .second] [(.ref pq), (.long (-9223372036854775808 : Int64))])) _
    refine st4 _ ?_
    refine XS.lcmp X4.here hx rfl (hb hby d8_60) rfl ?_
    refine XS.ifYes X4.here hx rfl (pc0 := 61) (pc' := 76) rfl (hb hby d8_61) rfl ((if0 _ _).trans (flt (fun z => hc61 ((lw_gt _ _).mp z))).2.2.2) (by decide) (by decide) ?_
    show Steps p.tables e below (T4.setTop (mkF m 76 #[.val (.ref pq), .val (.long old), .second, .val .null, .val .null, .val (.long old), .second, .val (.long (-9223372036854775808 : Int64)), .second] [])) _
    exact X4.returnOut hx Bd.returns (hb hby d8_76) hr
  · show QRF Z pq fx fs jr sn h0 n0 _ T4.heap _
    rw [e4]
    exact ⟨rfl, N0, kp5, ⟨Epd1, Fapd1, Fbpd1, Fcpd1, Fdpd1⟩⟩
set_option maxRecDepth 65536 in
set_option maxHeartbeats 40000000 in
theorem rm8_N_wr (l : Launch) (Z : State) (a0 : Array Value) (hw : ∀ d ∈ tables_1, d.before a0 Z = true) (ws : List Jvm.Cond) (old : Int64) (pq : Addr) (fx : Int64) (fs : Int64) (jr : Value) (sn : Value) (h0 : Heap) (n0 : Nat) (Z0 : n0 ≤ h0.size) (g0_pq : n0 ≤ pq) (PA : PdAt Z h0 pq fx fs jr sn) (hc41 : ¬ (fx < old)) (hc51 : old = fx) (hc61 : fs < (-9223372036854775808 : Int64)) :
    MetFree l nm_8 (head1 (Jvm.Cond.code nm_8 prog_27_method_6_code 9 none :: ws) rr_1_0_0_12) (fun aa zU => aa = #[(.ref pq), (.long old), .null, .null] ∧ Z.Warmed39 zU.vm ∧ zU.heap = h0) (fun _ _ _ _ _ => True) (fun _ zU zo zU' => ∃ zv zL, zo = .returned zv ∧ QRF Z pq old (-9223372036854775808 : Int64) jr sn h0 n0 zv zU'.heap zL ∧ FrameEnd zU zo zU' zL rr_1_0_0_12.cells rr_1_0_0_12.slots) := by
  refine MetFree.of_bodySF (plainFor_of_name pn_com_example_keyed_work_queue_keyedworkqueue_Pending) hisR ?_
  intro p e s m args below meth c s₁ Bd hml0 hP hK
  obtain ⟨rfl, hZ, hh⟩ := hP
  have hx := Bd.exec
  have hby := Bd.bytes
  have hml : c.maxLocals = 9 := hml0
  have hown : s.vm.findClass "com/example/keyed_work_queue/keyedworkqueue/Pending" = some m.cls := findClass_of_methodNamed Bd.named
  have hnm := (name_of_methodNamed Bd.named Bd.method).1
  have X0 : Stand p l e rr_1_0_0_12 s m #[(.ref pq), (.long old), .null, .null] below meth c s₁ [] 0 0 := Stand.of_body Bd
  have e0 : s₁.heap = h0 := by rw [← hh, Bd.state]; rfl
  have N0 := Fr.nil n0
  have pre0 : ∀ t, Steps p.tables e below (s₁.setTop (mkF m 0 #[.val (.ref pq), .val (.long old), .second, .val .null, .val .null, .unset, .unset, .unset, .unset] [])) t → Steps p.tables e below (s₁.setTop (entryFrame m #[(.ref pq), (.long old), .null, .null] 9)) t := fun t k => castTop (ef_8_RJNN m pq old) k
  obtain ⟨Epd1, Fapd1, Fbpd1, Fcpd1, Fdpd1⟩ := PA
  obtain ⟨T2, X2, e2, st2⟩ := getF X0 hx hZ hown (host := "") (Or.inl (ow hw 10 rfl)) Via.refl e0 Fapd1 (g := (mkF m 37 #[.val (.ref pq), .val (.long old), .second, .val .null, .val .null, .val (.long old), .second, .val (.long (-9223372036854775808 : Int64)), .second] [(.ref pq), (.long old)])) rfl rfl (hb hby d8_37)
  obtain ⟨T3, X3, e3, st3⟩ := getF X2 hx hZ hown (host := "") (Or.inl (ow hw 10 rfl)) Via.refl e2 Fapd1 (g := (mkF m 47 #[.val (.ref pq), .val (.long old), .second, .val .null, .val .null, .val (.long old), .second, .val (.long (-9223372036854775808 : Int64)), .second] [(.ref pq), (.long old)])) rfl rfl (hb hby d8_47)
  obtain ⟨T4, X4, e4, st4⟩ := getF X3 hx hZ hown (host := "") (Or.inl (ow hw 12 rfl)) Via.refl e3 Fbpd1 (g := (mkF m 57 #[.val (.ref pq), .val (.long old), .second, .val .null, .val .null, .val (.long old), .second, .val (.long (-9223372036854775808 : Int64)), .second] [(.ref pq), (.long (-9223372036854775808 : Int64))])) rfl rfl (hb hby d8_57)
  obtain ⟨T5, h5, X5, e5, W5, st5⟩ := putF X4 hx hZ hown (host := "") (Or.inl (ow hw 10 rfl)) Via.refl e4 Fapd1 Epd1 (Or.inl (ow hw 11 rfl)) (ow hw 1 rfl) (ty := .long) (by decide) rfl rfl (g := (mkF m 67 #[.val (.ref pq), .val (.long old), .second, .val .null, .val .null, .val (.long old), .second, .val (.long (-9223372036854775808 : Int64)), .second] [(.long old), (.ref pq)])) rfl rfl (hb hby d8_67)
  have Fw5 := Fapd1.same W5
  have N5 := Fr.snoc X5 N0 g0_pq
  have c7 := Fbpd1.other W5 (Or.inr (slot_ne (Or.inl (ow hw 13 rfl)) (Or.inl (ow hw 11 rfl)) (by decide) (t := .long) (t' := .long) (by decide) (by decide)))
  have c8 := Epd1.wr W5
  obtain ⟨T6, h6, X6, e6, W6, st6⟩ := putF X5 hx hZ hown (host := "") (Or.inl (ow hw 12 rfl)) Via.refl e5 c7 c8 (Or.inl (ow hw 13 rfl)) (ow hw 1 rfl) (ty := .long) (by decide) rfl rfl (g := (mkF m 73 #[.val (.ref pq), .val (.long old), .second, .val .null, .val .null, .val (.long old), .second, .val (.long (-9223372036854775808 : Int64)), .second] [(.long (-9223372036854775808 : Int64)), (.ref pq)])) rfl rfl (hb hby d8_73)
  have Fw6 := c7.same W6
  have N6 := Fr.snoc X6 N5 g0_pq
  have kp9 : Keep h0 h6 [pq] := (((Keep.refl h0 [pq]).wr W5 (Or.inl (List.mem_of_getElem? (i := 0) rfl))).wr W6 (Or.inl (List.mem_of_getElem? (i := 0) rfl)))
  have c10 := c8.wr W6
  have c11 := Fw5.other W6 (Or.inr (slot_ne (Or.inl (ow hw 11 rfl)) (Or.inl (ow hw 13 rfl)) (by decide) (t := .long) (t' := .long) (by decide) (by decide)))
  have c12 := Fcpd1.other W5 (Or.inr (slot_ne (Or.inl (ow hw 52 rfl)) (Or.inl (ow hw 11 rfl)) (by decide) (t := (.object "java/lang/Long")) (t' := .long) (by decide) (by decide)))
  have c13 := c12.other W6 (Or.inr (slot_ne (Or.inl (ow hw 52 rfl)) (Or.inl (ow hw 13 rfl)) (by decide) (t := (.object "java/lang/Long")) (t' := .long) (by decide) (by decide)))
  have c14 := Fdpd1.other W5 (Or.inr (slot_ne (Or.inl (ow hw 15 rfl)) (Or.inl (ow hw 11 rfl)) (by decide) (t := .boolean) (t' := .long) (by decide) (by decide)))
  have c15 := c14.other W6 (Or.inr (slot_ne (Or.inl (ow hw 15 rfl)) (Or.inl (ow hw 13 rfl)) (by decide) (t := .boolean) (t' := .long) (by decide) (by decide)))
  obtain ⟨fsq, hr, hrun, hended, hW, hsame⟩ := X6.leave (v := none) (fun _ => rfl)
  refine ⟨_, _, pre0 _ ?_, hrun, hended, _, _, rfl, ?_, ⟨_, rfl⟩, hW, hsame.mono (by decide) (by decide)⟩
  · show Steps p.tables e below (s₁.setTop (mkF m 0 #[.val (.ref pq), .val (.long old), .second, .val .null, .val .null, .unset, .unset, .unset, .unset] [])) _
    refine XS.lloadN X0.here hx rfl (hb hby d8_0) rfl ?_
    refine XS.lstore X0.here hx rfl (hb hby d8_1) rfl (l' := #[.val (.ref pq), .val (.long old), .second, .val .null, .val .null, .val (.long old), .second, .unset, .unset]) rfl ?_
    refine X0.ldc2Long hx hown (mvT hZ (ow hw 9 rfl)) (g := (mkF m 3 #[.val (.ref pq), .val (.long old), .second, .val .null, .val .null, .val (.long old), .second, .unset, .unset] [])) rfl (hb hby d8_3) _ ?_
    refine XS.lstore X0.here hx rfl (hb hby d8_6) rfl (l' := #[.val (.ref pq), .val (.long old), .second, .val .null, .val .null, .val (.long old), .second, .val (.long (-9223372036854775808 : Int64)), .second]) rfl ?_
    refine XS.aloadN X0.here hx rfl (hb hby d8_8) rfl rfl ?_
    refine XS.ifnullYes X0.here hx rfl (pc0 := 9) (pc' := 34) rfl (hb hby d8_9) rfl (by decide) (by decide) ?_
    refine XS.lload X0.here hx rfl (hb hby d8_34) rfl ?_
    refine XS.aloadN X0.here hx rfl (hb hby d8_36) rfl rfl ?_
    refine st2 _ ?_
    show Steps p.tables e below (T2.setTop (mkF m 40 #[.val (.ref pq), .val (.long old), .second, .val .null, .val .null, .val (.long old), .second, .val (.long (-9223372036854775808 : Int64)), .second] [(.long fx), (.long old)])) _
    refine XS.lcmp X2.here hx rfl (hb hby d8_40) rfl ?_
    refine XS.ifNo X2.here hx rfl (hb hby d8_41) rfl ((if0 _ _).trans (flt (fun z => hc41 ((lw_gt _ _).mp z))).2.2.1) ?_
    refine XS.lload X2.here hx rfl (hb hby d8_44) rfl ?_
    refine XS.aloadN X2.here hx rfl (hb hby d8_46) rfl rfl ?_
    refine st3 _ ?_
    refine XS.lcmp X3.here hx rfl (hb hby d8_50) rfl ?_
    refine XS.ifNo X3.here hx rfl (hb hby d8_51) rfl ((if0 _ _).trans (teq ((lw_eq _ _).mpr hc51)).2) ?_
    refine XS.lload X3.here hx rfl (hb hby d8_54) rfl ?_
    refine XS.aloadN X3.here hx rfl (hb hby d8_56) rfl rfl ?_
    show Steps p.tables e below (T3.setTop (mkF m 57 #[.val (.ref pq), .val (.long old), .second, .val .null, .val .null, .val (.long old), .second, .val (.long (-9223372036854775808 : Int64)), .second] [(.ref pq), (.long (-9223372036854775808 : Int64))])) _
    refine st4 _ ?_
    refine XS.lcmp X4.here hx rfl (hb hby d8_60) rfl ?_
    refine XS.ifNo X4.here hx rfl (hb hby d8_61) rfl ((if0 _ _).trans (tlt ((lw_gt _ _).mpr hc61)).2.2.2) ?_
    refine XS.aloadN X4.here hx rfl (hb hby d8_64) rfl rfl ?_
    refine XS.lload X4.here hx rfl (hb hby d8_65) rfl ?_
    refine st5 _ ?_
    refine XS.aloadN X5.here hx rfl (hb hby d8_70) rfl rfl ?_
    refine XS.lload X5.here hx rfl (hb hby d8_71) rfl ?_
    refine st6 _ ?_
    show Steps p.tables e below (T6.setTop (mkF m 76 #[.val (.ref pq), .val (.long old), .second, .val .null, .val .null, .val (.long old), .second, .val (.long (-9223372036854775808 : Int64)), .second] [])) _
    exact X6.returnOut hx Bd.returns (hb hby d8_76) hr
  · show QRF Z pq old (-9223372036854775808 : Int64) jr sn h0 n0 _ T6.heap _
    rw [e6]
    exact ⟨rfl, N6, kp9, ⟨c10, c11, Fw6, c13, c15⟩⟩
theorem d8_12 : decode prog_27_method_6_code 12 = .ok (.aload_n 3, 1) := by decide +kernel
theorem d8_13 : decode prog_27_method_6_code 13 = .ok (.invokevirtual 36, 3) := by decide +kernel
theorem d8_16 : decode prog_27_method_6_code 16 = .ok (.lload_n 1, 1) := by decide +kernel
theorem d8_17 : decode prog_27_method_6_code 17 = .ok (.lcmp, 1) := by decide +kernel
theorem d8_18 : decode prog_27_method_6_code 18 = .ok (.ifCond .ge 16, 3) := by decide +kernel
theorem ef_8 (m : MethodId) (x0 : Addr) (x1 : Int64) (x2 : Addr) (x3 : Addr) : entryFrame m #[(.ref x0), (.long x1), (.ref x2), (.ref x3)] 9 = mkF m 0 #[.val (.ref x0), .val (.long x1), .second, .val (.ref x2), .val (.ref x3), .unset, .unset, .unset, .unset] [] := by first | (simp [entryFrame, mkF, argsToLocals, Value.category]; done) | rfl
set_option maxRecDepth 65536 in
set_option maxHeartbeats 40000000 in
theorem rm8_ge_gt (l : Launch) (Z : State) (a0 : Array Value) (hw : ∀ d ∈ tables_1, d.before a0 Z = true) (ws : List Jvm.Cond) (old : Int64) (pq : Addr) (fx : Int64) (fs : Int64) (jr : Value) (sn : Value) (a3 : Addr) (a4 : Addr) (x : Int64) (sq : Int64) (h0 : Heap) (n0 : Nat) (Z0 : n0 ≤ h0.size) (g0_pq : n0 ≤ pq) (PA : PdAt Z h0 pq fx fs jr sn) (E3 : Exa Z h0 a3 "java/lang/Long") (F3 : Fld Z h0 a3 "java/lang/Long" "value" "J" (.long x)) (E4 : Exa Z h0 a4 "java/lang/Long") (F4 : Fld Z h0 a4 "java/lang/Long" "value" "J" (.long sq)) (hc18 : ¬ (x < old)) (hc41 : fx < old) :
    MetFree l nm_8 (head1 (Jvm.Cond.code nm_8 prog_27_method_6_code 9 none :: ws) rr_1_0_0_12) (fun aa zU => aa = #[(.ref pq), (.long old), (.ref a3), (.ref a4)] ∧ Z.Warmed39 zU.vm ∧ zU.heap = h0) (fun _ _ _ _ _ => True) (fun _ zU zo zU' => ∃ zv zL, zo = .returned zv ∧ QRF Z pq old (-9223372036854775808 : Int64) jr sn h0 n0 zv zU'.heap zL ∧ FrameEnd zU zo zU' zL rr_1_0_0_12.cells rr_1_0_0_12.slots) := by
  refine MetFree.of_bodySF (plainFor_of_name pn_com_example_keyed_work_queue_keyedworkqueue_Pending) hisR ?_
  intro p e s m args below meth c s₁ Bd hml0 hP hK
  obtain ⟨rfl, hZ, hh⟩ := hP
  have hx := Bd.exec
  have hby := Bd.bytes
  have hml : c.maxLocals = 9 := hml0
  have hown : s.vm.findClass "com/example/keyed_work_queue/keyedworkqueue/Pending" = some m.cls := findClass_of_methodNamed Bd.named
  have hnm := (name_of_methodNamed Bd.named Bd.method).1
  have X0 : Stand p l e rr_1_0_0_12 s m #[(.ref pq), (.long old), (.ref a3), (.ref a4)] below meth c s₁ [] 0 0 := Stand.of_body Bd
  have e0 : s₁.heap = h0 := by rw [← hh, Bd.state]; rfl
  have N0 := Fr.nil n0
  have pre0 : ∀ t, Steps p.tables e below (s₁.setTop (mkF m 0 #[.val (.ref pq), .val (.long old), .second, .val (.ref a3), .val (.ref a4), .unset, .unset, .unset, .unset] [])) t → Steps p.tables e below (s₁.setTop (entryFrame m #[(.ref pq), (.long old), (.ref a3), (.ref a4)] 9)) t := fun t k => castTop (ef_8 m pq old a3 a4) k
  obtain ⟨Epd1, Fapd1, Fbpd1, Fcpd1, Fdpd1⟩ := PA
  obtain ⟨cq2, kq2, q2a, q2b, q2c⟩ := isOf hZ e0 E3
  obtain ⟨_, _, ⟨T2, L2, k2, n2⟩, -, X2, ⟨Lc2, hQ2, l2, y2, z2⟩, st2⟩ := X0.virtualBack hx (y := nm_9) (z := nm_9) hown (mvT hZ (ow hw 57 rfl)) (mvT hZ (ow hw 58 rfl)) (notFace_of_selects (args := #[]) (mvT hZ (ow hw 60 rfl))) (mvT hZ (ow hw 60 rfl)) (mvT hZ (ow hw 59 rfl)) (by decide) (backOf (W := 0) (rm9 l Z a0 hw [] a3 x h0 n0 Z0 F3) hZ (ow hw 61 rfl) (ow hw 25 rfl) (by decide) (by decide)) q2a q2c (g := (mkF m 13 #[.val (.ref pq), .val (.long old), .second, .val (.ref a3), .val (.ref a4), .val (.long old), .second, .val (.long (-9223372036854775808 : Int64)), .second] [(.ref a3)])) rfl (by rw [hml]; rfl) (Steps.refl _) (argsL := []) (rest := []) (lenOf pd_6 rfl) rfl (by show 2 * 0 + _ ≤ _; exact Nat.le_of_eq rfl) (hb hby d8_13) (fun _ _ => ⟨rfl, e0, (by decide : 0 + 0 ≤ _), (by decide : 0 + 0 ≤ _)⟩)
  dsimp only [Pt.U, Pt.locs, Pt.cells, Pt.slots] at X2 l2 y2 z2 st2 hQ2
  subst l2 y2 z2
  obtain ⟨rfl, N2q, e2⟩ := hQ2
  have N2 := Fr.app N0 N2q
  obtain ⟨T3, X3, e3, st3⟩ := getF X2 hx hZ hown (host := "") (Or.inl (ow hw 10 rfl)) Via.refl e2 Fapd1 (g := (mkF m 37 #[.val (.ref pq), .val (.long old), .second, .val (.ref a3), .val (.ref a4), .val (.long old), .second, .val (.long (-9223372036854775808 : Int64)), .second] [(.ref pq), (.long old)])) rfl rfl (hb hby d8_37)
  obtain ⟨T4, h4, X4, e4, W4, st4⟩ := putF X3 hx hZ hown (host := "") (Or.inl (ow hw 10 rfl)) Via.refl e3 Fapd1 Epd1 (Or.inl (ow hw 11 rfl)) (ow hw 1 rfl) (ty := .long) (by decide) rfl rfl (g := (mkF m 67 #[.val (.ref pq), .val (.long old), .second, .val (.ref a3), .val (.ref a4), .val (.long old), .second, .val (.long (-9223372036854775808 : Int64)), .second] [(.long old), (.ref pq)])) rfl rfl (hb hby d8_67)
  have Fw4 := Fapd1.same W4
  have N4 := Fr.snoc X4 N2 g0_pq
  have c6 := Fbpd1.other W4 (Or.inr (slot_ne (Or.inl (ow hw 13 rfl)) (Or.inl (ow hw 11 rfl)) (by decide) (t := .long) (t' := .long) (by decide) (by decide)))
  have c7 := Epd1.wr W4
  obtain ⟨T5, h5, X5, e5, W5, st5⟩ := putF X4 hx hZ hown (host := "") (Or.inl (ow hw 12 rfl)) Via.refl e4 c6 c7 (Or.inl (ow hw 13 rfl)) (ow hw 1 rfl) (ty := .long) (by decide) rfl rfl (g := (mkF m 73 #[.val (.ref pq), .val (.long old), .second, .val (.ref a3), .val (.ref a4), .val (.long old), .second, .val (.long (-9223372036854775808 : Int64)), .second] [(.long (-9223372036854775808 : Int64)), (.ref pq)])) rfl rfl (hb hby d8_73)
  have Fw5 := c6.same W5
  have N5 := Fr.snoc X5 N4 g0_pq
  have kp8 : Keep h0 h5 [pq] := (((Keep.refl h0 [pq]).wr W4 (Or.inl (List.mem_of_getElem? (i := 0) rfl))).wr W5 (Or.inl (List.mem_of_getElem? (i := 0) rfl)))
  have c9 := c7.wr W5
  have c10 := Fw4.other W5 (Or.inr (slot_ne (Or.inl (ow hw 11 rfl)) (Or.inl (ow hw 13 rfl)) (by decide) (t := .long) (t' := .long) (by decide) (by decide)))
  have c11 := Fcpd1.other W4 (Or.inr (slot_ne (Or.inl (ow hw 52 rfl)) (Or.inl (ow hw 11 rfl)) (by decide) (t := (.object "java/lang/Long")) (t' := .long) (by decide) (by decide)))
  have c12 := c11.other W5 (Or.inr (slot_ne (Or.inl (ow hw 52 rfl)) (Or.inl (ow hw 13 rfl)) (by decide) (t := (.object "java/lang/Long")) (t' := .long) (by decide) (by decide)))
  have c13 := Fdpd1.other W4 (Or.inr (slot_ne (Or.inl (ow hw 15 rfl)) (Or.inl (ow hw 11 rfl)) (by decide) (t := .boolean) (t' := .long) (by decide) (by decide)))
  have c14 := c13.other W5 (Or.inr (slot_ne (Or.inl (ow hw 15 rfl)) (Or.inl (ow hw 13 rfl)) (by decide) (t := .boolean) (t' := .long) (by decide) (by decide)))
  obtain ⟨fsq, hr, hrun, hended, hW, hsame⟩ := X5.leave (v := none) (fun _ => rfl)
  refine ⟨_, _, pre0 _ ?_, hrun, hended, _, _, rfl, ?_, ⟨_, rfl⟩, hW, hsame.mono (by decide) (by decide)⟩
  · show Steps p.tables e below (s₁.setTop (mkF m 0 #[.val (.ref pq), .val (.long old), .second, .val (.ref a3), .val (.ref a4), .unset, .unset, .unset, .unset] [])) _
    refine XS.lloadN X0.here hx rfl (hb hby d8_0) rfl ?_
    refine XS.lstore X0.here hx rfl (hb hby d8_1) rfl (l' := #[.val (.ref pq), .val (.long old), .second, .val (.ref a3), .val (.ref a4), .val (.long old), .second, .unset, .unset]) rfl ?_
    refine X0.ldc2Long hx hown (mvT hZ (ow hw 9 rfl)) (g := (mkF m 3 #[.val (.ref pq), .val (.long old), .second, .val (.ref a3), .val (.ref a4), .val (.long old), .second, .unset, .unset] [])) rfl (hb hby d8_3) _ ?_
    refine XS.lstore X0.here hx rfl (hb hby d8_6) rfl (l' := #[.val (.ref pq), .val (.long old), .second, .val (.ref a3), .val (.ref a4), .val (.long old), .second, .val (.long (-9223372036854775808 : Int64)), .second]) rfl ?_
    refine XS.aloadN X0.here hx rfl (hb hby d8_8) rfl rfl ?_
    refine XS.ifnullNo X0.here hx rfl (hb hby d8_9) rfl ?_
    refine XS.aloadN X0.here hx rfl (hb hby d8_12) rfl rfl ?_
    refine st2.trans ?_
    refine XS.lloadN X2.here hx rfl (hb hby d8_16) rfl ?_
    show Steps p.tables e below (T2.setTop (mkF m 17 #[.val (.ref pq), .val (.long old), .second, .val (.ref a3), .val (.ref a4), .val (.long old), .second, .val (.long (-9223372036854775808 : Int64)), .second] [(.long old), (.long x)])) _
    refine XS.lcmp X2.here hx rfl (hb hby d8_17) rfl ?_
    refine XS.ifYes X2.here hx rfl (pc0 := 18) (pc' := 34) rfl (hb hby d8_18) rfl ((if0 _ _).trans (flt (fun z => hc18 ((lw_lt _ _).mp z))).2.1) (by decide) (by decide) ?_
    refine XS.lload X2.here hx rfl (hb hby d8_34) rfl ?_
    refine XS.aloadN X2.here hx rfl (hb hby d8_36) rfl rfl ?_
    refine st3 _ ?_
    refine XS.lcmp X3.here hx rfl (hb hby d8_40) rfl ?_
    refine XS.ifYes X3.here hx rfl (pc0 := 41) (pc' := 64) rfl (hb hby d8_41) rfl ((if0 _ _).trans (tlt ((lw_gt _ _).mpr hc41)).2.2.1) (by decide) (by decide) ?_
    refine XS.aloadN X3.here hx rfl (hb hby d8_64) rfl rfl ?_
    refine XS.lload X3.here hx rfl (hb hby d8_65) rfl ?_
    show Steps p.tables e below (T3.setTop (mkF m 67 #[.val (.ref pq), .val (.long old), .second, .val (.ref a3), .val (.ref a4), .val (.long old), .second, .val (.long (-9223372036854775808 : Int64)), .second] [(.long old), (.ref pq)])) _
    refine st4 _ ?_
    refine XS.aloadN X4.here hx rfl (hb hby d8_70) rfl rfl ?_
    refine XS.lload X4.here hx rfl (hb hby d8_71) rfl ?_
    refine st5 _ ?_
    show Steps p.tables e below (T5.setTop (mkF m 76 #[.val (.ref pq), .val (.long old), .second, .val (.ref a3), .val (.ref a4), .val (.long old), .second, .val (.long (-9223372036854775808 : Int64)), .second] [])) _
    exact X5.returnOut hx Bd.returns (hb hby d8_76) hr
  · show QRF Z pq old (-9223372036854775808 : Int64) jr sn h0 n0 _ T5.heap _
    rw [e5]
    exact ⟨rfl, N5, kp8, ⟨c9, c10, Fw5, c12, c14⟩⟩
set_option maxRecDepth 65536 in
set_option maxHeartbeats 40000000 in
theorem rm8_ge_ne (l : Launch) (Z : State) (a0 : Array Value) (hw : ∀ d ∈ tables_1, d.before a0 Z = true) (ws : List Jvm.Cond) (old : Int64) (pq : Addr) (fx : Int64) (fs : Int64) (jr : Value) (sn : Value) (a3 : Addr) (a4 : Addr) (x : Int64) (sq : Int64) (h0 : Heap) (n0 : Nat) (Z0 : n0 ≤ h0.size) (g0_pq : n0 ≤ pq) (PA : PdAt Z h0 pq fx fs jr sn) (E3 : Exa Z h0 a3 "java/lang/Long") (F3 : Fld Z h0 a3 "java/lang/Long" "value" "J" (.long x)) (E4 : Exa Z h0 a4 "java/lang/Long") (F4 : Fld Z h0 a4 "java/lang/Long" "value" "J" (.long sq)) (hc18 : ¬ (x < old)) (hc41 : ¬ (fx < old)) (hc51 : ¬ (old = fx)) :
    MetFree l nm_8 (head1 (Jvm.Cond.code nm_8 prog_27_method_6_code 9 none :: ws) rr_1_0_0_12) (fun aa zU => aa = #[(.ref pq), (.long old), (.ref a3), (.ref a4)] ∧ Z.Warmed39 zU.vm ∧ zU.heap = h0) (fun _ _ _ _ _ => True) (fun _ zU zo zU' => ∃ zv zL, zo = .returned zv ∧ QRF Z pq fx fs jr sn h0 n0 zv zU'.heap zL ∧ FrameEnd zU zo zU' zL rr_1_0_0_12.cells rr_1_0_0_12.slots) := by
  refine MetFree.of_bodySF (plainFor_of_name pn_com_example_keyed_work_queue_keyedworkqueue_Pending) hisR ?_
  intro p e s m args below meth c s₁ Bd hml0 hP hK
  obtain ⟨rfl, hZ, hh⟩ := hP
  have hx := Bd.exec
  have hby := Bd.bytes
  have hml : c.maxLocals = 9 := hml0
  have hown : s.vm.findClass "com/example/keyed_work_queue/keyedworkqueue/Pending" = some m.cls := findClass_of_methodNamed Bd.named
  have hnm := (name_of_methodNamed Bd.named Bd.method).1
  have X0 : Stand p l e rr_1_0_0_12 s m #[(.ref pq), (.long old), (.ref a3), (.ref a4)] below meth c s₁ [] 0 0 := Stand.of_body Bd
  have e0 : s₁.heap = h0 := by rw [← hh, Bd.state]; rfl
  have N0 := Fr.nil n0
  have pre0 : ∀ t, Steps p.tables e below (s₁.setTop (mkF m 0 #[.val (.ref pq), .val (.long old), .second, .val (.ref a3), .val (.ref a4), .unset, .unset, .unset, .unset] [])) t → Steps p.tables e below (s₁.setTop (entryFrame m #[(.ref pq), (.long old), (.ref a3), (.ref a4)] 9)) t := fun t k => castTop (ef_8 m pq old a3 a4) k
  obtain ⟨Epd1, Fapd1, Fbpd1, Fcpd1, Fdpd1⟩ := PA
  obtain ⟨cq2, kq2, q2a, q2b, q2c⟩ := isOf hZ e0 E3
  obtain ⟨_, _, ⟨T2, L2, k2, n2⟩, -, X2, ⟨Lc2, hQ2, l2, y2, z2⟩, st2⟩ := X0.virtualBack hx (y := nm_9) (z := nm_9) hown (mvT hZ (ow hw 57 rfl)) (mvT hZ (ow hw 58 rfl)) (notFace_of_selects (args := #[]) (mvT hZ (ow hw 60 rfl))) (mvT hZ (ow hw 60 rfl)) (mvT hZ (ow hw 59 rfl)) (by decide) (backOf (W := 0) (rm9 l Z a0 hw [] a3 x h0 n0 Z0 F3) hZ (ow hw 61 rfl) (ow hw 25 rfl) (by decide) (by decide)) q2a q2c (g := (mkF m 13 #[.val (.ref pq), .val (.long old), .second, .val (.ref a3), .val (.ref a4), .val (.long old), .second, .val (.long (-9223372036854775808 : Int64)), .second] [(.ref a3)])) rfl (by rw [hml]; rfl) (Steps.refl _) (argsL := []) (rest := []) (lenOf pd_6 rfl) rfl (by show 2 * 0 + _ ≤ _; exact Nat.le_of_eq rfl) (hb hby d8_13) (fun _ _ => ⟨rfl, e0, (by decide : 0 + 0 ≤ _), (by decide : 0 + 0 ≤ _)⟩)
  dsimp only [Pt.U, Pt.locs, Pt.cells, Pt.slots] at X2 l2 y2 z2 st2 hQ2
  subst l2 y2 z2
  obtain ⟨rfl, N2q, e2⟩ := hQ2
  have N2 := Fr.app N0 N2q
  obtain ⟨T3, X3, e3, st3⟩ := getF X2 hx hZ hown (host := "") (Or.inl (ow hw 10 rfl)) Via.refl e2 Fapd1 (g := (mkF m 37 #[.val (.ref pq), .val (.long old), .second, .val (.ref a3), .val (.ref a4), .val (.long old), .second, .val (.long (-9223372036854775808 : Int64)), .second] [(.ref pq), (.long old)])) rfl rfl (hb hby d8_37)
  obtain ⟨T4, X4, e4, st4⟩ := getF X3 hx hZ hown (host := "") (Or.inl (ow hw 10 rfl)) Via.refl e3 Fapd1 (g := (mkF m 47 #[.val (.ref pq), .val (.long old), .second, .val (.ref a3), .val (.ref a4), .val (.long old), .second, .val (.long (-9223372036854775808 : Int64)), .second] [(.ref pq), (.long old)])) rfl rfl (hb hby d8_47)
  have kp5 : Keep h0 h0 [pq] := (Keep.refl h0 [pq])
  obtain ⟨fsq, hr, hrun, hended, hW, hsame⟩ := X4.leave (v := none) (fun _ => rfl)
  refine ⟨_, _, pre0 _ ?_, hrun, hended, _, _, rfl, ?_, ⟨_, rfl⟩, hW, hsame.mono (by decide) (by decide)⟩
  · show Steps p.tables e below (s₁.setTop (mkF m 0 #[.val (.ref pq), .val (.long old), .second, .val (.ref a3), .val (.ref a4), .unset, .unset, .unset, .unset] [])) _
    refine XS.lloadN X0.here hx rfl (hb hby d8_0) rfl ?_
    refine XS.lstore X0.here hx rfl (hb hby d8_1) rfl (l' := #[.val (.ref pq), .val (.long old), .second, .val (.ref a3), .val (.ref a4), .val (.long old), .second, .unset, .unset]) rfl ?_
    refine X0.ldc2Long hx hown (mvT hZ (ow hw 9 rfl)) (g := (mkF m 3 #[.val (.ref pq), .val (.long old), .second, .val (.ref a3), .val (.ref a4), .val (.long old), .second, .unset, .unset] [])) rfl (hb hby d8_3) _ ?_
    refine XS.lstore X0.here hx rfl (hb hby d8_6) rfl (l' := #[.val (.ref pq), .val (.long old), .second, .val (.ref a3), .val (.ref a4), .val (.long old), .second, .val (.long (-9223372036854775808 : Int64)), .second]) rfl ?_
    refine XS.aloadN X0.here hx rfl (hb hby d8_8) rfl rfl ?_
    refine XS.ifnullNo X0.here hx rfl (hb hby d8_9) rfl ?_
    refine XS.aloadN X0.here hx rfl (hb hby d8_12) rfl rfl ?_
    refine st2.trans ?_
    refine XS.lloadN X2.here hx rfl (hb hby d8_16) rfl ?_
    show Steps p.tables e below (T2.setTop (mkF m 17 #[.val (.ref pq), .val (.long old), .second, .val (.ref a3), .val (.ref a4), .val (.long old), .second, .val (.long (-9223372036854775808 : Int64)), .second] [(.long old), (.long x)])) _
    refine XS.lcmp X2.here hx rfl (hb hby d8_17) rfl ?_
    refine XS.ifYes X2.here hx rfl (pc0 := 18) (pc' := 34) rfl (hb hby d8_18) rfl ((if0 _ _).trans (flt (fun z => hc18 ((lw_lt _ _).mp z))).2.1) (by decide) (by decide) ?_
    refine XS.lload X2.here hx rfl (hb hby d8_34) rfl ?_
    refine XS.aloadN X2.here hx rfl (hb hby d8_36) rfl rfl ?_
    refine st3 _ ?_
    refine XS.lcmp X3.here hx rfl (hb hby d8_40) rfl ?_
    refine XS.ifNo X3.here hx rfl (hb hby d8_41) rfl ((if0 _ _).trans (flt (fun z => hc41 ((lw_gt _ _).mp z))).2.2.1) ?_
    refine XS.lload X3.here hx rfl (hb hby d8_44) rfl ?_
    refine XS.aloadN X3.here hx rfl (hb hby d8_46) rfl rfl ?_
    show Steps p.tables e below (T3.setTop (mkF m 47 #[.val (.ref pq), .val (.long old), .second, .val (.ref a3), .val (.ref a4), .val (.long old), .second, .val (.long (-9223372036854775808 : Int64)), .second] [(.ref pq), (.long old)])) _
    refine st4 _ ?_
    refine XS.lcmp X4.here hx rfl (hb hby d8_50) rfl ?_
    refine XS.ifYes X4.here hx rfl (pc0 := 51) (pc' := 76) rfl (hb hby d8_51) rfl ((if0 _ _).trans (feq (fun z => hc51 ((lw_eq _ _).mp z))).2) (by decide) (by decide) ?_
    show Steps p.tables e below (T4.setTop (mkF m 76 #[.val (.ref pq), .val (.long old), .second, .val (.ref a3), .val (.ref a4), .val (.long old), .second, .val (.long (-9223372036854775808 : Int64)), .second] [])) _
    exact X4.returnOut hx Bd.returns (hb hby d8_76) hr
  · show QRF Z pq fx fs jr sn h0 n0 _ T4.heap _
    rw [e4]
    exact ⟨rfl, N2, kp5, ⟨Epd1, Fapd1, Fbpd1, Fcpd1, Fdpd1⟩⟩
set_option maxRecDepth 65536 in
set_option maxHeartbeats 40000000 in
theorem rm8_ge_le (l : Launch) (Z : State) (a0 : Array Value) (hw : ∀ d ∈ tables_1, d.before a0 Z = true) (ws : List Jvm.Cond) (old : Int64) (pq : Addr) (fx : Int64) (fs : Int64) (jr : Value) (sn : Value) (a3 : Addr) (a4 : Addr) (x : Int64) (sq : Int64) (h0 : Heap) (n0 : Nat) (Z0 : n0 ≤ h0.size) (g0_pq : n0 ≤ pq) (PA : PdAt Z h0 pq fx fs jr sn) (E3 : Exa Z h0 a3 "java/lang/Long") (F3 : Fld Z h0 a3 "java/lang/Long" "value" "J" (.long x)) (E4 : Exa Z h0 a4 "java/lang/Long") (F4 : Fld Z h0 a4 "java/lang/Long" "value" "J" (.long sq)) (hc18 : ¬ (x < old)) (hc41 : ¬ (fx < old)) (hc51 : old = fx) (hc61 : ¬ (fs < (-9223372036854775808 : Int64))) :
    MetFree l nm_8 (head1 (Jvm.Cond.code nm_8 prog_27_method_6_code 9 none :: ws) rr_1_0_0_12) (fun aa zU => aa = #[(.ref pq), (.long old), (.ref a3), (.ref a4)] ∧ Z.Warmed39 zU.vm ∧ zU.heap = h0) (fun _ _ _ _ _ => True) (fun _ zU zo zU' => ∃ zv zL, zo = .returned zv ∧ QRF Z pq fx fs jr sn h0 n0 zv zU'.heap zL ∧ FrameEnd zU zo zU' zL rr_1_0_0_12.cells rr_1_0_0_12.slots) := by
  refine MetFree.of_bodySF (plainFor_of_name pn_com_example_keyed_work_queue_keyedworkqueue_Pending) hisR ?_
  intro p e s m args below meth c s₁ Bd hml0 hP hK
  obtain ⟨rfl, hZ, hh⟩ := hP
  have hx := Bd.exec
  have hby := Bd.bytes
  have hml : c.maxLocals = 9 := hml0
  have hown : s.vm.findClass "com/example/keyed_work_queue/keyedworkqueue/Pending" = some m.cls := findClass_of_methodNamed Bd.named
  have hnm := (name_of_methodNamed Bd.named Bd.method).1
  have X0 : Stand p l e rr_1_0_0_12 s m #[(.ref pq), (.long old), (.ref a3), (.ref a4)] below meth c s₁ [] 0 0 := Stand.of_body Bd
  have e0 : s₁.heap = h0 := by rw [← hh, Bd.state]; rfl
  have N0 := Fr.nil n0
  have pre0 : ∀ t, Steps p.tables e below (s₁.setTop (mkF m 0 #[.val (.ref pq), .val (.long old), .second, .val (.ref a3), .val (.ref a4), .unset, .unset, .unset, .unset] [])) t → Steps p.tables e below (s₁.setTop (entryFrame m #[(.ref pq), (.long old), (.ref a3), (.ref a4)] 9)) t := fun t k => castTop (ef_8 m pq old a3 a4) k
  obtain ⟨Epd1, Fapd1, Fbpd1, Fcpd1, Fdpd1⟩ := PA
  obtain ⟨cq2, kq2, q2a, q2b, q2c⟩ := isOf hZ e0 E3
  obtain ⟨_, _, ⟨T2, L2, k2, n2⟩, -, X2, ⟨Lc2, hQ2, l2, y2, z2⟩, st2⟩ := X0.virtualBack hx (y := nm_9) (z := nm_9) hown (mvT hZ (ow hw 57 rfl)) (mvT hZ (ow hw 58 rfl)) (notFace_of_selects (args := #[]) (mvT hZ (ow hw 60 rfl))) (mvT hZ (ow hw 60 rfl)) (mvT hZ (ow hw 59 rfl)) (by decide) (backOf (W := 0) (rm9 l Z a0 hw [] a3 x h0 n0 Z0 F3) hZ (ow hw 61 rfl) (ow hw 25 rfl) (by decide) (by decide)) q2a q2c (g := (mkF m 13 #[.val (.ref pq), .val (.long old), .second, .val (.ref a3), .val (.ref a4), .val (.long old), .second, .val (.long (-9223372036854775808 : Int64)), .second] [(.ref a3)])) rfl (by rw [hml]; rfl) (Steps.refl _) (argsL := []) (rest := []) (lenOf pd_6 rfl) rfl (by show 2 * 0 + _ ≤ _; exact Nat.le_of_eq rfl) (hb hby d8_13) (fun _ _ => ⟨rfl, e0, (by decide : 0 + 0 ≤ _), (by decide : 0 + 0 ≤ _)⟩)
  dsimp only [Pt.U, Pt.locs, Pt.cells, Pt.slots] at X2 l2 y2 z2 st2 hQ2
  subst l2 y2 z2
  obtain ⟨rfl, N2q, e2⟩ := hQ2
  have N2 := Fr.app N0 N2q
  obtain ⟨T3, X3, e3, st3⟩ := getF X2 hx hZ hown (host := "") (Or.inl (ow hw 10 rfl)) Via.refl e2 Fapd1 (g := (mkF m 37 #[.val (.ref pq), .val (.long old), .second, .val (.ref a3), .val (.ref a4), .val (.long old), .second, .val (.long (-9223372036854775808 : Int64)), .second] [(.ref pq), (.long old)])) rfl rfl (hb hby d8_37)
  obtain ⟨T4, X4, e4, st4⟩ := getF X3 hx hZ hown (host := "") (Or.inl (ow hw 10 rfl)) Via.refl e3 Fapd1 (g := (mkF m 47 #[.val (.ref pq), .val (.long old), .second, .val (.ref a3), .val (.ref a4), .val (.long old), .second, .val (.long (-9223372036854775808 : Int64)), .second] [(.ref pq), (.long old)])) rfl rfl (hb hby d8_47)
  obtain ⟨T5, X5, e5, st5⟩ := getF X4 hx hZ hown (host := "") (Or.inl (ow hw 12 rfl)) Via.refl e4 Fbpd1 (g := (mkF m 57 #[.val (.ref pq), .val (.long old), .second, .val (.ref a3), .val (.ref a4), .val (.long old), .second, .val (.long (-9223372036854775808 : Int64)), .second] [(.ref pq), (.long (-9223372036854775808 : Int64))])) rfl rfl (hb hby d8_57)
  have kp6 : Keep h0 h0 [pq] := (Keep.refl h0 [pq])
  obtain ⟨fsq, hr, hrun, hended, hW, hsame⟩ := X5.leave (v := none) (fun _ => rfl)
  refine ⟨_, _, pre0 _ ?_, hrun, hended, _, _, rfl, ?_, ⟨_, rfl⟩, hW, hsame.mono (by decide) (by decide)⟩
  · show Steps p.tables e below (s₁.setTop (mkF m 0 #[.val (.ref pq), .val (.long old), .second, .val (.ref a3), .val (.ref a4), .unset, .unset, .unset, .unset] [])) _
    refine XS.lloadN X0.here hx rfl (hb hby d8_0) rfl ?_
    refine XS.lstore X0.here hx rfl (hb hby d8_1) rfl (l' := #[.val (.ref pq), .val (.long old), .second, .val (.ref a3), .val (.ref a4), .val (.long old), .second, .unset, .unset]) rfl ?_
    refine X0.ldc2Long hx hown (mvT hZ (ow hw 9 rfl)) (g := (mkF m 3 #[.val (.ref pq), .val (.long old), .second, .val (.ref a3), .val (.ref a4), .val (.long old), .second, .unset, .unset] [])) rfl (hb hby d8_3) _ ?_
    refine XS.lstore X0.here hx rfl (hb hby d8_6) rfl (l' := #[.val (.ref pq), .val (.long old), .second, .val (.ref a3), .val (.ref a4), .val (.long old), .second, .val (.long (-9223372036854775808 : Int64)), .second]) rfl ?_
    refine XS.aloadN X0.here hx rfl (hb hby d8_8) rfl rfl ?_
    refine XS.ifnullNo X0.here hx rfl (hb hby d8_9) rfl ?_
    refine XS.aloadN X0.here hx rfl (hb hby d8_12) rfl rfl ?_
    refine st2.trans ?_
    refine XS.lloadN X2.here hx rfl (hb hby d8_16) rfl ?_
    show Steps p.tables e below (T2.setTop (mkF m 17 #[.val (.ref pq), .val (.long old), .second, .val (.ref a3), .val (.ref a4), .val (.long old), .second, .val (.long (-9223372036854775808 : Int64)), .second] [(.long old), (.long x)])) _
    refine XS.lcmp X2.here hx rfl (hb hby d8_17) rfl ?_
    refine XS.ifYes X2.here hx rfl (pc0 := 18) (pc' := 34) rfl (hb hby d8_18) rfl ((if0 _ _).trans (flt (fun z => hc18 ((lw_lt _ _).mp z))).2.1) (by decide) (by decide) ?_
    refine XS.lload X2.here hx rfl (hb hby d8_34) rfl ?_
    refine XS.aloadN X2.here hx rfl (hb hby d8_36) rfl rfl ?_
    refine st3 _ ?_
    refine XS.lcmp X3.here hx rfl (hb hby d8_40) rfl ?_
    refine XS.ifNo X3.here hx rfl (hb hby d8_41) rfl ((if0 _ _).trans (flt (fun z => hc41 ((lw_gt _ _).mp z))).2.2.1) ?_
    refine XS.lload X3.here hx rfl (hb hby d8_44) rfl ?_
    refine XS.aloadN X3.here hx rfl (hb hby d8_46) rfl rfl ?_
    show Steps p.tables e below (T3.setTop (mkF m 47 #[.val (.ref pq), .val (.long old), .second, .val (.ref a3), .val (.ref a4), .val (.long old), .second, .val (.long (-9223372036854775808 : Int64)), .second] [(.ref pq), (.long old)])) _
    refine st4 _ ?_
    refine XS.lcmp X4.here hx rfl (hb hby d8_50) rfl ?_
    refine XS.ifNo X4.here hx rfl (hb hby d8_51) rfl ((if0 _ _).trans (teq ((lw_eq _ _).mpr hc51)).2) ?_
    refine XS.lload X4.here hx rfl (hb hby d8_54) rfl ?_
    refine XS.aloadN X4.here hx rfl (hb hby d8_56) rfl rfl ?_
    refine st5 _ ?_
    refine XS.lcmp X5.here hx rfl (hb hby d8_60) rfl ?_
    refine XS.ifYes X5.here hx rfl (pc0 := 61) (pc' := 76) rfl (hb hby d8_61) rfl ((if0 _ _).trans (flt (fun z => hc61 ((lw_gt _ _).mp z))).2.2.2) (by decide) (by decide) ?_
    show Steps p.tables e below (T5.setTop (mkF m 76 #[.val (.ref pq), .val (.long old), .second, .val (.ref a3), .val (.ref a4), .val (.long old), .second, .val (.long (-9223372036854775808 : Int64)), .second] [])) _
    exact X5.returnOut hx Bd.returns (hb hby d8_76) hr
  · show QRF Z pq fx fs jr sn h0 n0 _ T5.heap _
    rw [e5]
    exact ⟨rfl, N2, kp6, ⟨Epd1, Fapd1, Fbpd1, Fcpd1, Fdpd1⟩⟩
set_option maxRecDepth 65536 in
set_option maxHeartbeats 40000000 in
theorem rm8_ge_wr (l : Launch) (Z : State) (a0 : Array Value) (hw : ∀ d ∈ tables_1, d.before a0 Z = true) (ws : List Jvm.Cond) (old : Int64) (pq : Addr) (fx : Int64) (fs : Int64) (jr : Value) (sn : Value) (a3 : Addr) (a4 : Addr) (x : Int64) (sq : Int64) (h0 : Heap) (n0 : Nat) (Z0 : n0 ≤ h0.size) (g0_pq : n0 ≤ pq) (PA : PdAt Z h0 pq fx fs jr sn) (E3 : Exa Z h0 a3 "java/lang/Long") (F3 : Fld Z h0 a3 "java/lang/Long" "value" "J" (.long x)) (E4 : Exa Z h0 a4 "java/lang/Long") (F4 : Fld Z h0 a4 "java/lang/Long" "value" "J" (.long sq)) (hc18 : ¬ (x < old)) (hc41 : ¬ (fx < old)) (hc51 : old = fx) (hc61 : fs < (-9223372036854775808 : Int64)) :
    MetFree l nm_8 (head1 (Jvm.Cond.code nm_8 prog_27_method_6_code 9 none :: ws) rr_1_0_0_12) (fun aa zU => aa = #[(.ref pq), (.long old), (.ref a3), (.ref a4)] ∧ Z.Warmed39 zU.vm ∧ zU.heap = h0) (fun _ _ _ _ _ => True) (fun _ zU zo zU' => ∃ zv zL, zo = .returned zv ∧ QRF Z pq old (-9223372036854775808 : Int64) jr sn h0 n0 zv zU'.heap zL ∧ FrameEnd zU zo zU' zL rr_1_0_0_12.cells rr_1_0_0_12.slots) := by
  refine MetFree.of_bodySF (plainFor_of_name pn_com_example_keyed_work_queue_keyedworkqueue_Pending) hisR ?_
  intro p e s m args below meth c s₁ Bd hml0 hP hK
  obtain ⟨rfl, hZ, hh⟩ := hP
  have hx := Bd.exec
  have hby := Bd.bytes
  have hml : c.maxLocals = 9 := hml0
  have hown : s.vm.findClass "com/example/keyed_work_queue/keyedworkqueue/Pending" = some m.cls := findClass_of_methodNamed Bd.named
  have hnm := (name_of_methodNamed Bd.named Bd.method).1
  have X0 : Stand p l e rr_1_0_0_12 s m #[(.ref pq), (.long old), (.ref a3), (.ref a4)] below meth c s₁ [] 0 0 := Stand.of_body Bd
  have e0 : s₁.heap = h0 := by rw [← hh, Bd.state]; rfl
  have N0 := Fr.nil n0
  have pre0 : ∀ t, Steps p.tables e below (s₁.setTop (mkF m 0 #[.val (.ref pq), .val (.long old), .second, .val (.ref a3), .val (.ref a4), .unset, .unset, .unset, .unset] [])) t → Steps p.tables e below (s₁.setTop (entryFrame m #[(.ref pq), (.long old), (.ref a3), (.ref a4)] 9)) t := fun t k => castTop (ef_8 m pq old a3 a4) k
  obtain ⟨Epd1, Fapd1, Fbpd1, Fcpd1, Fdpd1⟩ := PA
  obtain ⟨cq2, kq2, q2a, q2b, q2c⟩ := isOf hZ e0 E3
  obtain ⟨_, _, ⟨T2, L2, k2, n2⟩, -, X2, ⟨Lc2, hQ2, l2, y2, z2⟩, st2⟩ := X0.virtualBack hx (y := nm_9) (z := nm_9) hown (mvT hZ (ow hw 57 rfl)) (mvT hZ (ow hw 58 rfl)) (notFace_of_selects (args := #[]) (mvT hZ (ow hw 60 rfl))) (mvT hZ (ow hw 60 rfl)) (mvT hZ (ow hw 59 rfl)) (by decide) (backOf (W := 0) (rm9 l Z a0 hw [] a3 x h0 n0 Z0 F3) hZ (ow hw 61 rfl) (ow hw 25 rfl) (by decide) (by decide)) q2a q2c (g := (mkF m 13 #[.val (.ref pq), .val (.long old), .second, .val (.ref a3), .val (.ref a4), .val (.long old), .second, .val (.long (-9223372036854775808 : Int64)), .second] [(.ref a3)])) rfl (by rw [hml]; rfl) (Steps.refl _) (argsL := []) (rest := []) (lenOf pd_6 rfl) rfl (by show 2 * 0 + _ ≤ _; exact Nat.le_of_eq rfl) (hb hby d8_13) (fun _ _ => ⟨rfl, e0, (by decide : 0 + 0 ≤ _), (by decide : 0 + 0 ≤ _)⟩)
  dsimp only [Pt.U, Pt.locs, Pt.cells, Pt.slots] at X2 l2 y2 z2 st2 hQ2
  subst l2 y2 z2
  obtain ⟨rfl, N2q, e2⟩ := hQ2
  have N2 := Fr.app N0 N2q
  obtain ⟨T3, X3, e3, st3⟩ := getF X2 hx hZ hown (host := "") (Or.inl (ow hw 10 rfl)) Via.refl e2 Fapd1 (g := (mkF m 37 #[.val (.ref pq), .val (.long old), .second, .val (.ref a3), .val (.ref a4), .val (.long old), .second, .val (.long (-9223372036854775808 : Int64)), .second] [(.ref pq), (.long old)])) rfl rfl (hb hby d8_37)
  obtain ⟨T4, X4, e4, st4⟩ := getF X3 hx hZ hown (host := "") (Or.inl (ow hw 10 rfl)) Via.refl e3 Fapd1 (g := (mkF m 47 #[.val (.ref pq), .val (.long old), .second, .val (.ref a3), .val (.ref a4), .val (.long old), .second, .val (.long (-9223372036854775808 : Int64)), .second] [(.ref pq), (.long old)])) rfl rfl (hb hby d8_47)
  obtain ⟨T5, X5, e5, st5⟩ := getF X4 hx hZ hown (host := "") (Or.inl (ow hw 12 rfl)) Via.refl e4 Fbpd1 (g := (mkF m 57 #[.val (.ref pq), .val (.long old), .second, .val (.ref a3), .val (.ref a4), .val (.long old), .second, .val (.long (-9223372036854775808 : Int64)), .second] [(.ref pq), (.long (-9223372036854775808 : Int64))])) rfl rfl (hb hby d8_57)
  obtain ⟨T6, h6, X6, e6, W6, st6⟩ := putF X5 hx hZ hown (host := "") (Or.inl (ow hw 10 rfl)) Via.refl e5 Fapd1 Epd1 (Or.inl (ow hw 11 rfl)) (ow hw 1 rfl) (ty := .long) (by decide) rfl rfl (g := (mkF m 67 #[.val (.ref pq), .val (.long old), .second, .val (.ref a3), .val (.ref a4), .val (.long old), .second, .val (.long (-9223372036854775808 : Int64)), .second] [(.long old), (.ref pq)])) rfl rfl (hb hby d8_67)
  have Fw6 := Fapd1.same W6
  have N6 := Fr.snoc X6 N2 g0_pq
  have c8 := Fbpd1.other W6 (Or.inr (slot_ne (Or.inl (ow hw 13 rfl)) (Or.inl (ow hw 11 rfl)) (by decide) (t := .long) (t' := .long) (by decide) (by decide)))
  have c9 := Epd1.wr W6
  obtain ⟨T7, h7, X7, e7, W7, st7⟩ := putF X6 hx hZ hown (host := "") (Or.inl (ow hw 12 rfl)) Via.refl e6 c8 c9 (Or.inl (ow hw 13 rfl)) (ow hw 1 rfl) (ty := .long) (by decide) rfl rfl (g := (mkF m 73 #[.val (.ref pq), .val (.long old), .second, .val (.ref a3), .val (.ref a4), .val (.long old), .second, .val (.long (-9223372036854775808 : Int64)), .second] [(.long (-9223372036854775808 : Int64)), (.ref pq)])) rfl rfl (hb hby d8_73)
  have Fw7 := c8.same W7
  have N7 := Fr.snoc X7 N6 g0_pq
  have kp10 : Keep h0 h7 [pq] := (((Keep.refl h0 [pq]).wr W6 (Or.inl (List.mem_of_getElem? (i := 0) rfl))).wr W7 (Or.inl (List.mem_of_getElem? (i := 0) rfl)))
  have c11 := c9.wr W7
  have c12 := Fw6.other W7 (Or.inr (slot_ne (Or.inl (ow hw 11 rfl)) (Or.inl (ow hw 13 rfl)) (by decide) (t := .long) (t' := .long) (by decide) (by decide)))
  have c13 := Fcpd1.other W6 (Or.inr (slot_ne (Or.inl (ow hw 52 rfl)) (Or.inl (ow hw 11 rfl)) (by decide) (t := (.object "java/lang/Long")) (t' := .long) (by decide) (by decide)))
  have c14 := c13.other W7 (Or.inr (slot_ne (Or.inl (ow hw 52 rfl)) (Or.inl (ow hw 13 rfl)) (by decide) (t := (.object "java/lang/Long")) (t' := .long) (by decide) (by decide)))
  have c15 := Fdpd1.other W6 (Or.inr (slot_ne (Or.inl (ow hw 15 rfl)) (Or.inl (ow hw 11 rfl)) (by decide) (t := .boolean) (t' := .long) (by decide) (by decide)))
  have c16 := c15.other W7 (Or.inr (slot_ne (Or.inl (ow hw 15 rfl)) (Or.inl (ow hw 13 rfl)) (by decide) (t := .boolean) (t' := .long) (by decide) (by decide)))
  obtain ⟨fsq, hr, hrun, hended, hW, hsame⟩ := X7.leave (v := none) (fun _ => rfl)
  refine ⟨_, _, pre0 _ ?_, hrun, hended, _, _, rfl, ?_, ⟨_, rfl⟩, hW, hsame.mono (by decide) (by decide)⟩
  · show Steps p.tables e below (s₁.setTop (mkF m 0 #[.val (.ref pq), .val (.long old), .second, .val (.ref a3), .val (.ref a4), .unset, .unset, .unset, .unset] [])) _
    refine XS.lloadN X0.here hx rfl (hb hby d8_0) rfl ?_
    refine XS.lstore X0.here hx rfl (hb hby d8_1) rfl (l' := #[.val (.ref pq), .val (.long old), .second, .val (.ref a3), .val (.ref a4), .val (.long old), .second, .unset, .unset]) rfl ?_
    refine X0.ldc2Long hx hown (mvT hZ (ow hw 9 rfl)) (g := (mkF m 3 #[.val (.ref pq), .val (.long old), .second, .val (.ref a3), .val (.ref a4), .val (.long old), .second, .unset, .unset] [])) rfl (hb hby d8_3) _ ?_
    refine XS.lstore X0.here hx rfl (hb hby d8_6) rfl (l' := #[.val (.ref pq), .val (.long old), .second, .val (.ref a3), .val (.ref a4), .val (.long old), .second, .val (.long (-9223372036854775808 : Int64)), .second]) rfl ?_
    refine XS.aloadN X0.here hx rfl (hb hby d8_8) rfl rfl ?_
    refine XS.ifnullNo X0.here hx rfl (hb hby d8_9) rfl ?_
    refine XS.aloadN X0.here hx rfl (hb hby d8_12) rfl rfl ?_
    refine st2.trans ?_
    refine XS.lloadN X2.here hx rfl (hb hby d8_16) rfl ?_
    show Steps p.tables e below (T2.setTop (mkF m 17 #[.val (.ref pq), .val (.long old), .second, .val (.ref a3), .val (.ref a4), .val (.long old), .second, .val (.long (-9223372036854775808 : Int64)), .second] [(.long old), (.long x)])) _
    refine XS.lcmp X2.here hx rfl (hb hby d8_17) rfl ?_
    refine XS.ifYes X2.here hx rfl (pc0 := 18) (pc' := 34) rfl (hb hby d8_18) rfl ((if0 _ _).trans (flt (fun z => hc18 ((lw_lt _ _).mp z))).2.1) (by decide) (by decide) ?_
    refine XS.lload X2.here hx rfl (hb hby d8_34) rfl ?_
    refine XS.aloadN X2.here hx rfl (hb hby d8_36) rfl rfl ?_
    refine st3 _ ?_
    refine XS.lcmp X3.here hx rfl (hb hby d8_40) rfl ?_
    refine XS.ifNo X3.here hx rfl (hb hby d8_41) rfl ((if0 _ _).trans (flt (fun z => hc41 ((lw_gt _ _).mp z))).2.2.1) ?_
    refine XS.lload X3.here hx rfl (hb hby d8_44) rfl ?_
    refine XS.aloadN X3.here hx rfl (hb hby d8_46) rfl rfl ?_
    show Steps p.tables e below (T3.setTop (mkF m 47 #[.val (.ref pq), .val (.long old), .second, .val (.ref a3), .val (.ref a4), .val (.long old), .second, .val (.long (-9223372036854775808 : Int64)), .second] [(.ref pq), (.long old)])) _
    refine st4 _ ?_
    refine XS.lcmp X4.here hx rfl (hb hby d8_50) rfl ?_
    refine XS.ifNo X4.here hx rfl (hb hby d8_51) rfl ((if0 _ _).trans (teq ((lw_eq _ _).mpr hc51)).2) ?_
    refine XS.lload X4.here hx rfl (hb hby d8_54) rfl ?_
    refine XS.aloadN X4.here hx rfl (hb hby d8_56) rfl rfl ?_
    refine st5 _ ?_
    refine XS.lcmp X5.here hx rfl (hb hby d8_60) rfl ?_
    refine XS.ifNo X5.here hx rfl (hb hby d8_61) rfl ((if0 _ _).trans (tlt ((lw_gt _ _).mpr hc61)).2.2.2) ?_
    refine XS.aloadN X5.here hx rfl (hb hby d8_64) rfl rfl ?_
    show Steps p.tables e below (T5.setTop (mkF m 65 #[.val (.ref pq), .val (.long old), .second, .val (.ref a3), .val (.ref a4), .val (.long old), .second, .val (.long (-9223372036854775808 : Int64)), .second] [(.ref pq)])) _
    refine XS.lload X5.here hx rfl (hb hby d8_65) rfl ?_
    refine st6 _ ?_
    refine XS.aloadN X6.here hx rfl (hb hby d8_70) rfl rfl ?_
    refine XS.lload X6.here hx rfl (hb hby d8_71) rfl ?_
    refine st7 _ ?_
    show Steps p.tables e below (T7.setTop (mkF m 76 #[.val (.ref pq), .val (.long old), .second, .val (.ref a3), .val (.ref a4), .val (.long old), .second, .val (.long (-9223372036854775808 : Int64)), .second] [])) _
    exact X7.returnOut hx Bd.returns (hb hby d8_76) hr
  · show QRF Z pq old (-9223372036854775808 : Int64) jr sn h0 n0 _ T7.heap _
    rw [e7]
    exact ⟨rfl, N7, kp10, ⟨c11, c12, Fw7, c14, c16⟩⟩
theorem d8_21 : decode prog_27_method_6_code 21 = .ok (.aload_n 3, 1) := by decide +kernel
theorem d8_22 : decode prog_27_method_6_code 22 = .ok (.invokevirtual 36, 3) := by decide +kernel
theorem d8_25 : decode prog_27_method_6_code 25 = .ok (.lstore 5, 2) := by decide +kernel
theorem d8_27 : decode prog_27_method_6_code 27 = .ok (.aload 4, 2) := by decide +kernel
theorem d8_29 : decode prog_27_method_6_code 29 = .ok (.invokevirtual 36, 3) := by decide +kernel
theorem d8_32 : decode prog_27_method_6_code 32 = .ok (.lstore 7, 2) := by decide +kernel
set_option maxRecDepth 65536 in
set_option maxHeartbeats 40000000 in
theorem rm8_lt_gt (l : Launch) (Z : State) (a0 : Array Value) (hw : ∀ d ∈ tables_1, d.before a0 Z = true) (ws : List Jvm.Cond) (old : Int64) (pq : Addr) (fx : Int64) (fs : Int64) (jr : Value) (sn : Value) (a3 : Addr) (a4 : Addr) (x : Int64) (sq : Int64) (h0 : Heap) (n0 : Nat) (Z0 : n0 ≤ h0.size) (g0_pq : n0 ≤ pq) (PA : PdAt Z h0 pq fx fs jr sn) (E3 : Exa Z h0 a3 "java/lang/Long") (F3 : Fld Z h0 a3 "java/lang/Long" "value" "J" (.long x)) (E4 : Exa Z h0 a4 "java/lang/Long") (F4 : Fld Z h0 a4 "java/lang/Long" "value" "J" (.long sq)) (hc18 : x < old) (hc41 : fx < x) :
    MetFree l nm_8 (head1 (Jvm.Cond.code nm_8 prog_27_method_6_code 9 none :: ws) rr_1_0_0_12) (fun aa zU => aa = #[(.ref pq), (.long old), (.ref a3), (.ref a4)] ∧ Z.Warmed39 zU.vm ∧ zU.heap = h0) (fun _ _ _ _ _ => True) (fun _ zU zo zU' => ∃ zv zL, zo = .returned zv ∧ QRF Z pq x sq jr sn h0 n0 zv zU'.heap zL ∧ FrameEnd zU zo zU' zL rr_1_0_0_12.cells rr_1_0_0_12.slots) := by
  refine MetFree.of_bodySF (plainFor_of_name pn_com_example_keyed_work_queue_keyedworkqueue_Pending) hisR ?_
  intro p e s m args below meth c s₁ Bd hml0 hP hK
  obtain ⟨rfl, hZ, hh⟩ := hP
  have hx := Bd.exec
  have hby := Bd.bytes
  have hml : c.maxLocals = 9 := hml0
  have hown : s.vm.findClass "com/example/keyed_work_queue/keyedworkqueue/Pending" = some m.cls := findClass_of_methodNamed Bd.named
  have hnm := (name_of_methodNamed Bd.named Bd.method).1
  have X0 : Stand p l e rr_1_0_0_12 s m #[(.ref pq), (.long old), (.ref a3), (.ref a4)] below meth c s₁ [] 0 0 := Stand.of_body Bd
  have e0 : s₁.heap = h0 := by rw [← hh, Bd.state]; rfl
  have N0 := Fr.nil n0
  have pre0 : ∀ t, Steps p.tables e below (s₁.setTop (mkF m 0 #[.val (.ref pq), .val (.long old), .second, .val (.ref a3), .val (.ref a4), .unset, .unset, .unset, .unset] [])) t → Steps p.tables e below (s₁.setTop (entryFrame m #[(.ref pq), (.long old), (.ref a3), (.ref a4)] 9)) t := fun t k => castTop (ef_8 m pq old a3 a4) k
  obtain ⟨Epd1, Fapd1, Fbpd1, Fcpd1, Fdpd1⟩ := PA
  obtain ⟨cq2, kq2, q2a, q2b, q2c⟩ := isOf hZ e0 E3
  obtain ⟨_, _, ⟨T2, L2, k2, n2⟩, -, X2, ⟨Lc2, hQ2, l2, y2, z2⟩, st2⟩ := X0.virtualBack hx (y := nm_9) (z := nm_9) hown (mvT hZ (ow hw 57 rfl)) (mvT hZ (ow hw 58 rfl)) (notFace_of_selects (args := #[]) (mvT hZ (ow hw 60 rfl))) (mvT hZ (ow hw 60 rfl)) (mvT hZ (ow hw 59 rfl)) (by decide) (backOf (W := 0) (rm9 l Z a0 hw [] a3 x h0 n0 Z0 F3) hZ (ow hw 61 rfl) (ow hw 25 rfl) (by decide) (by decide)) q2a q2c (g := (mkF m 13 #[.val (.ref pq), .val (.long old), .second, .val (.ref a3), .val (.ref a4), .val (.long old), .second, .val (.long (-9223372036854775808 : Int64)), .second] [(.ref a3)])) rfl (by rw [hml]; rfl) (Steps.refl _) (argsL := []) (rest := []) (lenOf pd_6 rfl) rfl (by show 2 * 0 + _ ≤ _; exact Nat.le_of_eq rfl) (hb hby d8_13) (fun _ _ => ⟨rfl, e0, (by decide : 0 + 0 ≤ _), (by decide : 0 + 0 ≤ _)⟩)
  dsimp only [Pt.U, Pt.locs, Pt.cells, Pt.slots] at X2 l2 y2 z2 st2 hQ2
  subst l2 y2 z2
  obtain ⟨rfl, N2q, e2⟩ := hQ2
  have N2 := Fr.app N0 N2q
  obtain ⟨cq3, kq3, q3a, q3b, q3c⟩ := isOf hZ e2 E3
  obtain ⟨_, _, ⟨T3, L3, k3, n3⟩, -, X3, ⟨Lc3, hQ3, l3, y3, z3⟩, st3⟩ := X2.virtualBack hx (y := nm_9) (z := nm_9) hown (mvT hZ (ow hw 57 rfl)) (mvT hZ (ow hw 58 rfl)) (notFace_of_selects (args := #[]) (mvT hZ (ow hw 60 rfl))) (mvT hZ (ow hw 60 rfl)) (mvT hZ (ow hw 59 rfl)) (by decide) (backOf (W := 0) (rm9 l Z a0 hw [] a3 x h0 n0 Z0 F3) hZ (ow hw 61 rfl) (ow hw 25 rfl) (by decide) (by decide)) q3a q3c (g := (mkF m 22 #[.val (.ref pq), .val (.long old), .second, .val (.ref a3), .val (.ref a4), .val (.long old), .second, .val (.long (-9223372036854775808 : Int64)), .second] [(.ref a3)])) rfl (by rw [hml]; rfl) (Steps.refl _) (argsL := []) (rest := []) (lenOf pd_6 rfl) rfl (by show 2 * 0 + _ ≤ _; exact Nat.le_of_eq rfl) (hb hby d8_22) (fun _ _ => ⟨rfl, e2, (by decide : 0 + 0 ≤ _), (by decide : 0 + 0 ≤ _)⟩)
  dsimp only [Pt.U, Pt.locs, Pt.cells, Pt.slots] at X3 l3 y3 z3 st3 hQ3
  subst l3 y3 z3
  obtain ⟨rfl, N3q, e3⟩ := hQ3
  have N3 := Fr.app N2 N3q
  obtain ⟨cq4, kq4, q4a, q4b, q4c⟩ := isOf hZ e3 E4
  obtain ⟨_, _, ⟨T4, L4, k4, n4⟩, -, X4, ⟨Lc4, hQ4, l4, y4, z4⟩, st4⟩ := X3.virtualBack hx (y := nm_9) (z := nm_9) hown (mvT hZ (ow hw 57 rfl)) (mvT hZ (ow hw 58 rfl)) (notFace_of_selects (args := #[]) (mvT hZ (ow hw 60 rfl))) (mvT hZ (ow hw 60 rfl)) (mvT hZ (ow hw 59 rfl)) (by decide) (backOf (W := 0) (rm9 l Z a0 hw [] a4 sq h0 n0 Z0 F4) hZ (ow hw 61 rfl) (ow hw 25 rfl) (by decide) (by decide)) q4a q4c (g := (mkF m 29 #[.val (.ref pq), .val (.long old), .second, .val (.ref a3), .val (.ref a4), .val (.long x), .second, .val (.long (-9223372036854775808 : Int64)), .second] [(.ref a4)])) rfl (by rw [hml]; rfl) (Steps.refl _) (argsL := []) (rest := []) (lenOf pd_6 rfl) rfl (by show 2 * 0 + _ ≤ _; exact Nat.le_of_eq rfl) (hb hby d8_29) (fun _ _ => ⟨rfl, e3, (by decide : 0 + 0 ≤ _), (by decide : 0 + 0 ≤ _)⟩)
  dsimp only [Pt.U, Pt.locs, Pt.cells, Pt.slots] at X4 l4 y4 z4 st4 hQ4
  subst l4 y4 z4
  obtain ⟨rfl, N4q, e4⟩ := hQ4
  have N4 := Fr.app N3 N4q
  obtain ⟨T5, X5, e5, st5⟩ := getF X4 hx hZ hown (host := "") (Or.inl (ow hw 10 rfl)) Via.refl e4 Fapd1 (g := (mkF m 37 #[.val (.ref pq), .val (.long old), .second, .val (.ref a3), .val (.ref a4), .val (.long x), .second, .val (.long sq), .second] [(.ref pq), (.long x)])) rfl rfl (hb hby d8_37)
  obtain ⟨T6, h6, X6, e6, W6, st6⟩ := putF X5 hx hZ hown (host := "") (Or.inl (ow hw 10 rfl)) Via.refl e5 Fapd1 Epd1 (Or.inl (ow hw 11 rfl)) (ow hw 1 rfl) (ty := .long) (by decide) rfl rfl (g := (mkF m 67 #[.val (.ref pq), .val (.long old), .second, .val (.ref a3), .val (.ref a4), .val (.long x), .second, .val (.long sq), .second] [(.long x), (.ref pq)])) rfl rfl (hb hby d8_67)
  have Fw6 := Fapd1.same W6
  have N6 := Fr.snoc X6 N4 g0_pq
  have c8 := Fbpd1.other W6 (Or.inr (slot_ne (Or.inl (ow hw 13 rfl)) (Or.inl (ow hw 11 rfl)) (by decide) (t := .long) (t' := .long) (by decide) (by decide)))
  have c9 := Epd1.wr W6
  obtain ⟨T7, h7, X7, e7, W7, st7⟩ := putF X6 hx hZ hown (host := "") (Or.inl (ow hw 12 rfl)) Via.refl e6 c8 c9 (Or.inl (ow hw 13 rfl)) (ow hw 1 rfl) (ty := .long) (by decide) rfl rfl (g := (mkF m 73 #[.val (.ref pq), .val (.long old), .second, .val (.ref a3), .val (.ref a4), .val (.long x), .second, .val (.long sq), .second] [(.long sq), (.ref pq)])) rfl rfl (hb hby d8_73)
  have Fw7 := c8.same W7
  have N7 := Fr.snoc X7 N6 g0_pq
  have kp10 : Keep h0 h7 [pq] := (((Keep.refl h0 [pq]).wr W6 (Or.inl (List.mem_of_getElem? (i := 0) rfl))).wr W7 (Or.inl (List.mem_of_getElem? (i := 0) rfl)))
  have c11 := c9.wr W7
  have c12 := Fw6.other W7 (Or.inr (slot_ne (Or.inl (ow hw 11 rfl)) (Or.inl (ow hw 13 rfl)) (by decide) (t := .long) (t' := .long) (by decide) (by decide)))
  have c13 := Fcpd1.other W6 (Or.inr (slot_ne (Or.inl (ow hw 52 rfl)) (Or.inl (ow hw 11 rfl)) (by decide) (t := (.object "java/lang/Long")) (t' := .long) (by decide) (by decide)))
  have c14 := c13.other W7 (Or.inr (slot_ne (Or.inl (ow hw 52 rfl)) (Or.inl (ow hw 13 rfl)) (by decide) (t := (.object "java/lang/Long")) (t' := .long) (by decide) (by decide)))
  have c15 := Fdpd1.other W6 (Or.inr (slot_ne (Or.inl (ow hw 15 rfl)) (Or.inl (ow hw 11 rfl)) (by decide) (t := .boolean) (t' := .long) (by decide) (by decide)))
  have c16 := c15.other W7 (Or.inr (slot_ne (Or.inl (ow hw 15 rfl)) (Or.inl (ow hw 13 rfl)) (by decide) (t := .boolean) (t' := .long) (by decide) (by decide)))
  obtain ⟨fsq, hr, hrun, hended, hW, hsame⟩ := X7.leave (v := none) (fun _ => rfl)
  refine ⟨_, _, pre0 _ ?_, hrun, hended, _, _, rfl, ?_, ⟨_, rfl⟩, hW, hsame.mono (by decide) (by decide)⟩
  · show Steps p.tables e below (s₁.setTop (mkF m 0 #[.val (.ref pq), .val (.long old), .second, .val (.ref a3), .val (.ref a4), .unset, .unset, .unset, .unset] [])) _
    refine XS.lloadN X0.here hx rfl (hb hby d8_0) rfl ?_
    refine XS.lstore X0.here hx rfl (hb hby d8_1) rfl (l' := #[.val (.ref pq), .val (.long old), .second, .val (.ref a3), .val (.ref a4), .val (.long old), .second, .unset, .unset]) rfl ?_
    refine X0.ldc2Long hx hown (mvT hZ (ow hw 9 rfl)) (g := (mkF m 3 #[.val (.ref pq), .val (.long old), .second, .val (.ref a3), .val (.ref a4), .val (.long old), .second, .unset, .unset] [])) rfl (hb hby d8_3) _ ?_
    refine XS.lstore X0.here hx rfl (hb hby d8_6) rfl (l' := #[.val (.ref pq), .val (.long old), .second, .val (.ref a3), .val (.ref a4), .val (.long old), .second, .val (.long (-9223372036854775808 : Int64)), .second]) rfl ?_
    refine XS.aloadN X0.here hx rfl (hb hby d8_8) rfl rfl ?_
    refine XS.ifnullNo X0.here hx rfl (hb hby d8_9) rfl ?_
    refine XS.aloadN X0.here hx rfl (hb hby d8_12) rfl rfl ?_
    refine st2.trans ?_
    refine XS.lloadN X2.here hx rfl (hb hby d8_16) rfl ?_
    show Steps p.tables e below (T2.setTop (mkF m 17 #[.val (.ref pq), .val (.long old), .second, .val (.ref a3), .val (.ref a4), .val (.long old), .second, .val (.long (-9223372036854775808 : Int64)), .second] [(.long old), (.long x)])) _
    refine XS.lcmp X2.here hx rfl (hb hby d8_17) rfl ?_
    refine XS.ifNo X2.here hx rfl (hb hby d8_18) rfl ((if0 _ _).trans (tlt ((lw_lt _ _).mpr hc18)).2.1) ?_
    refine XS.aloadN X2.here hx rfl (hb hby d8_21) rfl rfl ?_
    refine st3.trans ?_
    refine XS.lstore X3.here hx rfl (hb hby d8_25) rfl (l' := #[.val (.ref pq), .val (.long old), .second, .val (.ref a3), .val (.ref a4), .val (.long x), .second, .val (.long (-9223372036854775808 : Int64)), .second]) rfl ?_
    refine XS.aload X3.here hx rfl (hb hby d8_27) rfl rfl ?_
    refine st4.trans ?_
    refine XS.lstore X4.here hx rfl (hb hby d8_32) rfl (l' := #[.val (.ref pq), .val (.long old), .second, .val (.ref a3), .val (.ref a4), .val (.long x), .second, .val (.long sq), .second]) rfl ?_
    refine XS.lload X4.here hx rfl (hb hby d8_34) rfl ?_
    show Steps p.tables e below (T4.setTop (mkF m 36 #[.val (.ref pq), .val (.long old), .second, .val (.ref a3), .val (.ref a4), .val (.long x), .second, .val (.long sq), .second] [(.long x)])) _
    refine XS.aloadN X4.here hx rfl (hb hby d8_36) rfl rfl ?_
    refine st5 _ ?_
    refine XS.lcmp X5.here hx rfl (hb hby d8_40) rfl ?_
    refine XS.ifYes X5.here hx rfl (pc0 := 41) (pc' := 64) rfl (hb hby d8_41) rfl ((if0 _ _).trans (tlt ((lw_gt _ _).mpr hc41)).2.2.1) (by decide) (by decide) ?_
    refine XS.aloadN X5.here hx rfl (hb hby d8_64) rfl rfl ?_
    refine XS.lload X5.here hx rfl (hb hby d8_65) rfl ?_
    refine st6 _ ?_
    refine XS.aloadN X6.here hx rfl (hb hby d8_70) rfl rfl ?_
    refine XS.lload X6.here hx rfl (hb hby d8_71) rfl ?_
    show Steps p.tables e below (T6.setTop (mkF m 73 #[.val (.ref pq), .val (.long old), .second, .val (.ref a3), .val (.ref a4), .val (.long x), .second, .val (.long sq), .second] [(.long sq), (.ref pq)])) _
    refine st7 _ ?_
    show Steps p.tables e below (T7.setTop (mkF m 76 #[.val (.ref pq), .val (.long old), .second, .val (.ref a3), .val (.ref a4), .val (.long x), .second, .val (.long sq), .second] [])) _
    exact X7.returnOut hx Bd.returns (hb hby d8_76) hr
  · show QRF Z pq x sq jr sn h0 n0 _ T7.heap _
    rw [e7]
    exact ⟨rfl, N7, kp10, ⟨c11, c12, Fw7, c14, c16⟩⟩
set_option maxRecDepth 65536 in
set_option maxHeartbeats 40000000 in
theorem rm8_lt_ne (l : Launch) (Z : State) (a0 : Array Value) (hw : ∀ d ∈ tables_1, d.before a0 Z = true) (ws : List Jvm.Cond) (old : Int64) (pq : Addr) (fx : Int64) (fs : Int64) (jr : Value) (sn : Value) (a3 : Addr) (a4 : Addr) (x : Int64) (sq : Int64) (h0 : Heap) (n0 : Nat) (Z0 : n0 ≤ h0.size) (g0_pq : n0 ≤ pq) (PA : PdAt Z h0 pq fx fs jr sn) (E3 : Exa Z h0 a3 "java/lang/Long") (F3 : Fld Z h0 a3 "java/lang/Long" "value" "J" (.long x)) (E4 : Exa Z h0 a4 "java/lang/Long") (F4 : Fld Z h0 a4 "java/lang/Long" "value" "J" (.long sq)) (hc18 : x < old) (hc41 : ¬ (fx < x)) (hc51 : ¬ (x = fx)) :
    MetFree l nm_8 (head1 (Jvm.Cond.code nm_8 prog_27_method_6_code 9 none :: ws) rr_1_0_0_12) (fun aa zU => aa = #[(.ref pq), (.long old), (.ref a3), (.ref a4)] ∧ Z.Warmed39 zU.vm ∧ zU.heap = h0) (fun _ _ _ _ _ => True) (fun _ zU zo zU' => ∃ zv zL, zo = .returned zv ∧ QRF Z pq fx fs jr sn h0 n0 zv zU'.heap zL ∧ FrameEnd zU zo zU' zL rr_1_0_0_12.cells rr_1_0_0_12.slots) := by
  refine MetFree.of_bodySF (plainFor_of_name pn_com_example_keyed_work_queue_keyedworkqueue_Pending) hisR ?_
  intro p e s m args below meth c s₁ Bd hml0 hP hK
  obtain ⟨rfl, hZ, hh⟩ := hP
  have hx := Bd.exec
  have hby := Bd.bytes
  have hml : c.maxLocals = 9 := hml0
  have hown : s.vm.findClass "com/example/keyed_work_queue/keyedworkqueue/Pending" = some m.cls := findClass_of_methodNamed Bd.named
  have hnm := (name_of_methodNamed Bd.named Bd.method).1
  have X0 : Stand p l e rr_1_0_0_12 s m #[(.ref pq), (.long old), (.ref a3), (.ref a4)] below meth c s₁ [] 0 0 := Stand.of_body Bd
  have e0 : s₁.heap = h0 := by rw [← hh, Bd.state]; rfl
  have N0 := Fr.nil n0
  have pre0 : ∀ t, Steps p.tables e below (s₁.setTop (mkF m 0 #[.val (.ref pq), .val (.long old), .second, .val (.ref a3), .val (.ref a4), .unset, .unset, .unset, .unset] [])) t → Steps p.tables e below (s₁.setTop (entryFrame m #[(.ref pq), (.long old), (.ref a3), (.ref a4)] 9)) t := fun t k => castTop (ef_8 m pq old a3 a4) k
  obtain ⟨Epd1, Fapd1, Fbpd1, Fcpd1, Fdpd1⟩ := PA
  obtain ⟨cq2, kq2, q2a, q2b, q2c⟩ := isOf hZ e0 E3
  obtain ⟨_, _, ⟨T2, L2, k2, n2⟩, -, X2, ⟨Lc2, hQ2, l2, y2, z2⟩, st2⟩ := X0.virtualBack hx (y := nm_9) (z := nm_9) hown (mvT hZ (ow hw 57 rfl)) (mvT hZ (ow hw 58 rfl)) (notFace_of_selects (args := #[]) (mvT hZ (ow hw 60 rfl))) (mvT hZ (ow hw 60 rfl)) (mvT hZ (ow hw 59 rfl)) (by decide) (backOf (W := 0) (rm9 l Z a0 hw [] a3 x h0 n0 Z0 F3) hZ (ow hw 61 rfl) (ow hw 25 rfl) (by decide) (by decide)) q2a q2c (g := (mkF m 13 #[.val (.ref pq), .val (.long old), .second, .val (.ref a3), .val (.ref a4), .val (.long old), .second, .val (.long (-9223372036854775808 : Int64)), .second] [(.ref a3)])) rfl (by rw [hml]; rfl) (Steps.refl _) (argsL := []) (rest := []) (lenOf pd_6 rfl) rfl (by show 2 * 0 + _ ≤ _; exact Nat.le_of_eq rfl) (hb hby d8_13) (fun _ _ => ⟨rfl, e0, (by decide : 0 + 0 ≤ _), (by decide : 0 + 0 ≤ _)⟩)
  dsimp only [Pt.U, Pt.locs, Pt.cells, Pt.slots] at X2 l2 y2 z2 st2 hQ2
  subst l2 y2 z2
  obtain ⟨rfl, N2q, e2⟩ := hQ2
  have N2 := Fr.app N0 N2q
  obtain ⟨cq3, kq3, q3a, q3b, q3c⟩ := isOf hZ e2 E3
  obtain ⟨_, _, ⟨T3, L3, k3, n3⟩, -, X3, ⟨Lc3, hQ3, l3, y3, z3⟩, st3⟩ := X2.virtualBack hx (y := nm_9) (z := nm_9) hown (mvT hZ (ow hw 57 rfl)) (mvT hZ (ow hw 58 rfl)) (notFace_of_selects (args := #[]) (mvT hZ (ow hw 60 rfl))) (mvT hZ (ow hw 60 rfl)) (mvT hZ (ow hw 59 rfl)) (by decide) (backOf (W := 0) (rm9 l Z a0 hw [] a3 x h0 n0 Z0 F3) hZ (ow hw 61 rfl) (ow hw 25 rfl) (by decide) (by decide)) q3a q3c (g := (mkF m 22 #[.val (.ref pq), .val (.long old), .second, .val (.ref a3), .val (.ref a4), .val (.long old), .second, .val (.long (-9223372036854775808 : Int64)), .second] [(.ref a3)])) rfl (by rw [hml]; rfl) (Steps.refl _) (argsL := []) (rest := []) (lenOf pd_6 rfl) rfl (by show 2 * 0 + _ ≤ _; exact Nat.le_of_eq rfl) (hb hby d8_22) (fun _ _ => ⟨rfl, e2, (by decide : 0 + 0 ≤ _), (by decide : 0 + 0 ≤ _)⟩)
  dsimp only [Pt.U, Pt.locs, Pt.cells, Pt.slots] at X3 l3 y3 z3 st3 hQ3
  subst l3 y3 z3
  obtain ⟨rfl, N3q, e3⟩ := hQ3
  have N3 := Fr.app N2 N3q
  obtain ⟨cq4, kq4, q4a, q4b, q4c⟩ := isOf hZ e3 E4
  obtain ⟨_, _, ⟨T4, L4, k4, n4⟩, -, X4, ⟨Lc4, hQ4, l4, y4, z4⟩, st4⟩ := X3.virtualBack hx (y := nm_9) (z := nm_9) hown (mvT hZ (ow hw 57 rfl)) (mvT hZ (ow hw 58 rfl)) (notFace_of_selects (args := #[]) (mvT hZ (ow hw 60 rfl))) (mvT hZ (ow hw 60 rfl)) (mvT hZ (ow hw 59 rfl)) (by decide) (backOf (W := 0) (rm9 l Z a0 hw [] a4 sq h0 n0 Z0 F4) hZ (ow hw 61 rfl) (ow hw 25 rfl) (by decide) (by decide)) q4a q4c (g := (mkF m 29 #[.val (.ref pq), .val (.long old), .second, .val (.ref a3), .val (.ref a4), .val (.long x), .second, .val (.long (-9223372036854775808 : Int64)), .second] [(.ref a4)])) rfl (by rw [hml]; rfl) (Steps.refl _) (argsL := []) (rest := []) (lenOf pd_6 rfl) rfl (by show 2 * 0 + _ ≤ _; exact Nat.le_of_eq rfl) (hb hby d8_29) (fun _ _ => ⟨rfl, e3, (by decide : 0 + 0 ≤ _), (by decide : 0 + 0 ≤ _)⟩)
  dsimp only [Pt.U, Pt.locs, Pt.cells, Pt.slots] at X4 l4 y4 z4 st4 hQ4
  subst l4 y4 z4
  obtain ⟨rfl, N4q, e4⟩ := hQ4
  have N4 := Fr.app N3 N4q
  obtain ⟨T5, X5, e5, st5⟩ := getF X4 hx hZ hown (host := "") (Or.inl (ow hw 10 rfl)) Via.refl e4 Fapd1 (g := (mkF m 37 #[.val (.ref pq), .val (.long old), .second, .val (.ref a3), .val (.ref a4), .val (.long x), .second, .val (.long sq), .second] [(.ref pq), (.long x)])) rfl rfl (hb hby d8_37)
  obtain ⟨T6, X6, e6, st6⟩ := getF X5 hx hZ hown (host := "") (Or.inl (ow hw 10 rfl)) Via.refl e5 Fapd1 (g := (mkF m 47 #[.val (.ref pq), .val (.long old), .second, .val (.ref a3), .val (.ref a4), .val (.long x), .second, .val (.long sq), .second] [(.ref pq), (.long x)])) rfl rfl (hb hby d8_47)
  have kp7 : Keep h0 h0 [pq] := (Keep.refl h0 [pq])
  obtain ⟨fsq, hr, hrun, hended, hW, hsame⟩ := X6.leave (v := none) (fun _ => rfl)
  refine ⟨_, _, pre0 _ ?_, hrun, hended, _, _, rfl, ?_, ⟨_, rfl⟩, hW, hsame.mono (by decide) (by decide)⟩
  · show Steps p.tables e below (s₁.setTop (mkF m 0 #[.val (.ref pq), .val (.long old), .second, .val (.ref a3), .val (.ref a4), .unset, .unset, .unset, .unset] [])) _
    refine XS.lloadN X0.here hx rfl (hb hby d8_0) rfl ?_
    refine XS.lstore X0.here hx rfl (hb hby d8_1) rfl (l' := #[.val (.ref pq), .val (.long old), .second, .val (.ref a3), .val (.ref a4), .val (.long old), .second, .unset, .unset]) rfl ?_
    refine X0.ldc2Long hx hown (mvT hZ (ow hw 9 rfl)) (g := (mkF m 3 #[.val (.ref pq), .val (.long old), .second, .val (.ref a3), .val (.ref a4), .val (.long old), .second, .unset, .unset] [])) rfl (hb hby d8_3) _ ?_
    refine XS.lstore X0.here hx rfl (hb hby d8_6) rfl (l' := #[.val (.ref pq), .val (.long old), .second, .val (.ref a3), .val (.ref a4), .val (.long old), .second, .val (.long (-9223372036854775808 : Int64)), .second]) rfl ?_
    refine XS.aloadN X0.here hx rfl (hb hby d8_8) rfl rfl ?_
    refine XS.ifnullNo X0.here hx rfl (hb hby d8_9) rfl ?_
    refine XS.aloadN X0.here hx rfl (hb hby d8_12) rfl rfl ?_
    refine st2.trans ?_
    refine XS.lloadN X2.here hx rfl (hb hby d8_16) rfl ?_
    show Steps p.tables e below (T2.setTop (mkF m 17 #[.val (.ref pq), .val (.long old), .second, .val (.ref a3), .val (.ref a4), .val (.long old), .second, .val (.long (-9223372036854775808 : Int64)), .second] [(.long old), (.long x)])) _
    refine XS.lcmp X2.here hx rfl (hb hby d8_17) rfl ?_
    refine XS.ifNo X2.here hx rfl (hb hby d8_18) rfl ((if0 _ _).trans (tlt ((lw_lt _ _).mpr hc18)).2.1) ?_
    refine XS.aloadN X2.here hx rfl (hb hby d8_21) rfl rfl ?_
    refine st3.trans ?_
    refine XS.lstore X3.here hx rfl (hb hby d8_25) rfl (l' := #[.val (.ref pq), .val (.long old), .second, .val (.ref a3), .val (.ref a4), .val (.long x), .second, .val (.long (-9223372036854775808 : Int64)), .second]) rfl ?_
    refine XS.aload X3.here hx rfl (hb hby d8_27) rfl rfl ?_
    refine st4.trans ?_
    refine XS.lstore X4.here hx rfl (hb hby d8_32) rfl (l' := #[.val (.ref pq), .val (.long old), .second, .val (.ref a3), .val (.ref a4), .val (.long x), .second, .val (.long sq), .second]) rfl ?_
    refine XS.lload X4.here hx rfl (hb hby d8_34) rfl ?_
    show Steps p.tables e below (T4.setTop (mkF m 36 #[.val (.ref pq), .val (.long old), .second, .val (.ref a3), .val (.ref a4), .val (.long x), .second, .val (.long sq), .second] [(.long x)])) _
    refine XS.aloadN X4.here hx rfl (hb hby d8_36) rfl rfl ?_
    refine st5 _ ?_
    refine XS.lcmp X5.here hx rfl (hb hby d8_40) rfl ?_
    refine XS.ifNo X5.here hx rfl (hb hby d8_41) rfl ((if0 _ _).trans (flt (fun z => hc41 ((lw_gt _ _).mp z))).2.2.1) ?_
    refine XS.lload X5.here hx rfl (hb hby d8_44) rfl ?_
    refine XS.aloadN X5.here hx rfl (hb hby d8_46) rfl rfl ?_
    refine st6 _ ?_
    refine XS.lcmp X6.here hx rfl (hb hby d8_50) rfl ?_
    refine XS.ifYes X6.here hx rfl (pc0 := 51) (pc' := 76) rfl (hb hby d8_51) rfl ((if0 _ _).trans (feq (fun z => hc51 ((lw_eq _ _).mp z))).2) (by decide) (by decide) ?_
    show Steps p.tables e below (T6.setTop (mkF m 76 #[.val (.ref pq), .val (.long old), .second, .val (.ref a3), .val (.ref a4), .val (.long x), .second, .val (.long sq), .second] [])) _
    exact X6.returnOut hx Bd.returns (hb hby d8_76) hr
  · show QRF Z pq fx fs jr sn h0 n0 _ T6.heap _
    rw [e6]
    exact ⟨rfl, N4, kp7, ⟨Epd1, Fapd1, Fbpd1, Fcpd1, Fdpd1⟩⟩
set_option maxRecDepth 65536 in
set_option maxHeartbeats 40000000 in
theorem rm8_lt_le (l : Launch) (Z : State) (a0 : Array Value) (hw : ∀ d ∈ tables_1, d.before a0 Z = true) (ws : List Jvm.Cond) (old : Int64) (pq : Addr) (fx : Int64) (fs : Int64) (jr : Value) (sn : Value) (a3 : Addr) (a4 : Addr) (x : Int64) (sq : Int64) (h0 : Heap) (n0 : Nat) (Z0 : n0 ≤ h0.size) (g0_pq : n0 ≤ pq) (PA : PdAt Z h0 pq fx fs jr sn) (E3 : Exa Z h0 a3 "java/lang/Long") (F3 : Fld Z h0 a3 "java/lang/Long" "value" "J" (.long x)) (E4 : Exa Z h0 a4 "java/lang/Long") (F4 : Fld Z h0 a4 "java/lang/Long" "value" "J" (.long sq)) (hc18 : x < old) (hc41 : ¬ (fx < x)) (hc51 : x = fx) (hc61 : ¬ (fs < sq)) :
    MetFree l nm_8 (head1 (Jvm.Cond.code nm_8 prog_27_method_6_code 9 none :: ws) rr_1_0_0_12) (fun aa zU => aa = #[(.ref pq), (.long old), (.ref a3), (.ref a4)] ∧ Z.Warmed39 zU.vm ∧ zU.heap = h0) (fun _ _ _ _ _ => True) (fun _ zU zo zU' => ∃ zv zL, zo = .returned zv ∧ QRF Z pq fx fs jr sn h0 n0 zv zU'.heap zL ∧ FrameEnd zU zo zU' zL rr_1_0_0_12.cells rr_1_0_0_12.slots) := by
  refine MetFree.of_bodySF (plainFor_of_name pn_com_example_keyed_work_queue_keyedworkqueue_Pending) hisR ?_
  intro p e s m args below meth c s₁ Bd hml0 hP hK
  obtain ⟨rfl, hZ, hh⟩ := hP
  have hx := Bd.exec
  have hby := Bd.bytes
  have hml : c.maxLocals = 9 := hml0
  have hown : s.vm.findClass "com/example/keyed_work_queue/keyedworkqueue/Pending" = some m.cls := findClass_of_methodNamed Bd.named
  have hnm := (name_of_methodNamed Bd.named Bd.method).1
  have X0 : Stand p l e rr_1_0_0_12 s m #[(.ref pq), (.long old), (.ref a3), (.ref a4)] below meth c s₁ [] 0 0 := Stand.of_body Bd
  have e0 : s₁.heap = h0 := by rw [← hh, Bd.state]; rfl
  have N0 := Fr.nil n0
  have pre0 : ∀ t, Steps p.tables e below (s₁.setTop (mkF m 0 #[.val (.ref pq), .val (.long old), .second, .val (.ref a3), .val (.ref a4), .unset, .unset, .unset, .unset] [])) t → Steps p.tables e below (s₁.setTop (entryFrame m #[(.ref pq), (.long old), (.ref a3), (.ref a4)] 9)) t := fun t k => castTop (ef_8 m pq old a3 a4) k
  obtain ⟨Epd1, Fapd1, Fbpd1, Fcpd1, Fdpd1⟩ := PA
  obtain ⟨cq2, kq2, q2a, q2b, q2c⟩ := isOf hZ e0 E3
  obtain ⟨_, _, ⟨T2, L2, k2, n2⟩, -, X2, ⟨Lc2, hQ2, l2, y2, z2⟩, st2⟩ := X0.virtualBack hx (y := nm_9) (z := nm_9) hown (mvT hZ (ow hw 57 rfl)) (mvT hZ (ow hw 58 rfl)) (notFace_of_selects (args := #[]) (mvT hZ (ow hw 60 rfl))) (mvT hZ (ow hw 60 rfl)) (mvT hZ (ow hw 59 rfl)) (by decide) (backOf (W := 0) (rm9 l Z a0 hw [] a3 x h0 n0 Z0 F3) hZ (ow hw 61 rfl) (ow hw 25 rfl) (by decide) (by decide)) q2a q2c (g := (mkF m 13 #[.val (.ref pq), .val (.long old), .second, .val (.ref a3), .val (.ref a4), .val (.long old), .second, .val (.long (-9223372036854775808 : Int64)), .second] [(.ref a3)])) rfl (by rw [hml]; rfl) (Steps.refl _) (argsL := []) (rest := []) (lenOf pd_6 rfl) rfl (by show 2 * 0 + _ ≤ _; exact Nat.le_of_eq rfl) (hb hby d8_13) (fun _ _ => ⟨rfl, e0, (by decide : 0 + 0 ≤ _), (by decide : 0 + 0 ≤ _)⟩)
  dsimp only [Pt.U, Pt.locs, Pt.cells, Pt.slots] at X2 l2 y2 z2 st2 hQ2
  subst l2 y2 z2
  obtain ⟨rfl, N2q, e2⟩ := hQ2
  have N2 := Fr.app N0 N2q
  obtain ⟨cq3, kq3, q3a, q3b, q3c⟩ := isOf hZ e2 E3
  obtain ⟨_, _, ⟨T3, L3, k3, n3⟩, -, X3, ⟨Lc3, hQ3, l3, y3, z3⟩, st3⟩ := X2.virtualBack hx (y := nm_9) (z := nm_9) hown (mvT hZ (ow hw 57 rfl)) (mvT hZ (ow hw 58 rfl)) (notFace_of_selects (args := #[]) (mvT hZ (ow hw 60 rfl))) (mvT hZ (ow hw 60 rfl)) (mvT hZ (ow hw 59 rfl)) (by decide) (backOf (W := 0) (rm9 l Z a0 hw [] a3 x h0 n0 Z0 F3) hZ (ow hw 61 rfl) (ow hw 25 rfl) (by decide) (by decide)) q3a q3c (g := (mkF m 22 #[.val (.ref pq), .val (.long old), .second, .val (.ref a3), .val (.ref a4), .val (.long old), .second, .val (.long (-9223372036854775808 : Int64)), .second] [(.ref a3)])) rfl (by rw [hml]; rfl) (Steps.refl _) (argsL := []) (rest := []) (lenOf pd_6 rfl) rfl (by show 2 * 0 + _ ≤ _; exact Nat.le_of_eq rfl) (hb hby d8_22) (fun _ _ => ⟨rfl, e2, (by decide : 0 + 0 ≤ _), (by decide : 0 + 0 ≤ _)⟩)
  dsimp only [Pt.U, Pt.locs, Pt.cells, Pt.slots] at X3 l3 y3 z3 st3 hQ3
  subst l3 y3 z3
  obtain ⟨rfl, N3q, e3⟩ := hQ3
  have N3 := Fr.app N2 N3q
  obtain ⟨cq4, kq4, q4a, q4b, q4c⟩ := isOf hZ e3 E4
  obtain ⟨_, _, ⟨T4, L4, k4, n4⟩, -, X4, ⟨Lc4, hQ4, l4, y4, z4⟩, st4⟩ := X3.virtualBack hx (y := nm_9) (z := nm_9) hown (mvT hZ (ow hw 57 rfl)) (mvT hZ (ow hw 58 rfl)) (notFace_of_selects (args := #[]) (mvT hZ (ow hw 60 rfl))) (mvT hZ (ow hw 60 rfl)) (mvT hZ (ow hw 59 rfl)) (by decide) (backOf (W := 0) (rm9 l Z a0 hw [] a4 sq h0 n0 Z0 F4) hZ (ow hw 61 rfl) (ow hw 25 rfl) (by decide) (by decide)) q4a q4c (g := (mkF m 29 #[.val (.ref pq), .val (.long old), .second, .val (.ref a3), .val (.ref a4), .val (.long x), .second, .val (.long (-9223372036854775808 : Int64)), .second] [(.ref a4)])) rfl (by rw [hml]; rfl) (Steps.refl _) (argsL := []) (rest := []) (lenOf pd_6 rfl) rfl (by show 2 * 0 + _ ≤ _; exact Nat.le_of_eq rfl) (hb hby d8_29) (fun _ _ => ⟨rfl, e3, (by decide : 0 + 0 ≤ _), (by decide : 0 + 0 ≤ _)⟩)
  dsimp only [Pt.U, Pt.locs, Pt.cells, Pt.slots] at X4 l4 y4 z4 st4 hQ4
  subst l4 y4 z4
  obtain ⟨rfl, N4q, e4⟩ := hQ4
  have N4 := Fr.app N3 N4q
  obtain ⟨T5, X5, e5, st5⟩ := getF X4 hx hZ hown (host := "") (Or.inl (ow hw 10 rfl)) Via.refl e4 Fapd1 (g := (mkF m 37 #[.val (.ref pq), .val (.long old), .second, .val (.ref a3), .val (.ref a4), .val (.long x), .second, .val (.long sq), .second] [(.ref pq), (.long x)])) rfl rfl (hb hby d8_37)
  obtain ⟨T6, X6, e6, st6⟩ := getF X5 hx hZ hown (host := "") (Or.inl (ow hw 10 rfl)) Via.refl e5 Fapd1 (g := (mkF m 47 #[.val (.ref pq), .val (.long old), .second, .val (.ref a3), .val (.ref a4), .val (.long x), .second, .val (.long sq), .second] [(.ref pq), (.long x)])) rfl rfl (hb hby d8_47)
  obtain ⟨T7, X7, e7, st7⟩ := getF X6 hx hZ hown (host := "") (Or.inl (ow hw 12 rfl)) Via.refl e6 Fbpd1 (g := (mkF m 57 #[.val (.ref pq), .val (.long old), .second, .val (.ref a3), .val (.ref a4), .val (.long x), .second, .val (.long sq), .second] [(.ref pq), (.long sq)])) rfl rfl (hb hby d8_57)
  have kp8 : Keep h0 h0 [pq] := (Keep.refl h0 [pq])
  obtain ⟨fsq, hr, hrun, hended, hW, hsame⟩ := X7.leave (v := none) (fun _ => rfl)
  refine ⟨_, _, pre0 _ ?_, hrun, hended, _, _, rfl, ?_, ⟨_, rfl⟩, hW, hsame.mono (by decide) (by decide)⟩
  · show Steps p.tables e below (s₁.setTop (mkF m 0 #[.val (.ref pq), .val (.long old), .second, .val (.ref a3), .val (.ref a4), .unset, .unset, .unset, .unset] [])) _
    refine XS.lloadN X0.here hx rfl (hb hby d8_0) rfl ?_
    refine XS.lstore X0.here hx rfl (hb hby d8_1) rfl (l' := #[.val (.ref pq), .val (.long old), .second, .val (.ref a3), .val (.ref a4), .val (.long old), .second, .unset, .unset]) rfl ?_
    refine X0.ldc2Long hx hown (mvT hZ (ow hw 9 rfl)) (g := (mkF m 3 #[.val (.ref pq), .val (.long old), .second, .val (.ref a3), .val (.ref a4), .val (.long old), .second, .unset, .unset] [])) rfl (hb hby d8_3) _ ?_
    refine XS.lstore X0.here hx rfl (hb hby d8_6) rfl (l' := #[.val (.ref pq), .val (.long old), .second, .val (.ref a3), .val (.ref a4), .val (.long old), .second, .val (.long (-9223372036854775808 : Int64)), .second]) rfl ?_
    refine XS.aloadN X0.here hx rfl (hb hby d8_8) rfl rfl ?_
    refine XS.ifnullNo X0.here hx rfl (hb hby d8_9) rfl ?_
    refine XS.aloadN X0.here hx rfl (hb hby d8_12) rfl rfl ?_
    refine st2.trans ?_
    refine XS.lloadN X2.here hx rfl (hb hby d8_16) rfl ?_
    show Steps p.tables e below (T2.setTop (mkF m 17 #[.val (.ref pq), .val (.long old), .second, .val (.ref a3), .val (.ref a4), .val (.long old), .second, .val (.long (-9223372036854775808 : Int64)), .second] [(.long old), (.long x)])) _
    refine XS.lcmp X2.here hx rfl (hb hby d8_17) rfl ?_
    refine XS.ifNo X2.here hx rfl (hb hby d8_18) rfl ((if0 _ _).trans (tlt ((lw_lt _ _).mpr hc18)).2.1) ?_
    refine XS.aloadN X2.here hx rfl (hb hby d8_21) rfl rfl ?_
    refine st3.trans ?_
    refine XS.lstore X3.here hx rfl (hb hby d8_25) rfl (l' := #[.val (.ref pq), .val (.long old), .second, .val (.ref a3), .val (.ref a4), .val (.long x), .second, .val (.long (-9223372036854775808 : Int64)), .second]) rfl ?_
    refine XS.aload X3.here hx rfl (hb hby d8_27) rfl rfl ?_
    refine st4.trans ?_
    refine XS.lstore X4.here hx rfl (hb hby d8_32) rfl (l' := #[.val (.ref pq), .val (.long old), .second, .val (.ref a3), .val (.ref a4), .val (.long x), .second, .val (.long sq), .second]) rfl ?_
    refine XS.lload X4.here hx rfl (hb hby d8_34) rfl ?_
    show Steps p.tables e below (T4.setTop (mkF m 36 #[.val (.ref pq), .val (.long old), .second, .val (.ref a3), .val (.ref a4), .val (.long x), .second, .val (.long sq), .second] [(.long x)])) _
    refine XS.aloadN X4.here hx rfl (hb hby d8_36) rfl rfl ?_
    refine st5 _ ?_
    refine XS.lcmp X5.here hx rfl (hb hby d8_40) rfl ?_
    refine XS.ifNo X5.here hx rfl (hb hby d8_41) rfl ((if0 _ _).trans (flt (fun z => hc41 ((lw_gt _ _).mp z))).2.2.1) ?_
    refine XS.lload X5.here hx rfl (hb hby d8_44) rfl ?_
    refine XS.aloadN X5.here hx rfl (hb hby d8_46) rfl rfl ?_
    refine st6 _ ?_
    refine XS.lcmp X6.here hx rfl (hb hby d8_50) rfl ?_
    refine XS.ifNo X6.here hx rfl (hb hby d8_51) rfl ((if0 _ _).trans (teq ((lw_eq _ _).mpr hc51)).2) ?_
    show Steps p.tables e below (T6.setTop (mkF m 54 #[.val (.ref pq), .val (.long old), .second, .val (.ref a3), .val (.ref a4), .val (.long x), .second, .val (.long sq), .second] [])) _
    refine XS.lload X6.here hx rfl (hb hby d8_54) rfl ?_
    refine XS.aloadN X6.here hx rfl (hb hby d8_56) rfl rfl ?_
    refine st7 _ ?_
    refine XS.lcmp X7.here hx rfl (hb hby d8_60) rfl ?_
    refine XS.ifYes X7.here hx rfl (pc0 := 61) (pc' := 76) rfl (hb hby d8_61) rfl ((if0 _ _).trans (flt (fun z => hc61 ((lw_gt _ _).mp z))).2.2.2) (by decide) (by decide) ?_
    show Steps p.tables e below (T7.setTop (mkF m 76 #[.val (.ref pq), .val (.long old), .second, .val (.ref a3), .val (.ref a4), .val (.long x), .second, .val (.long sq), .second] [])) _
    exact X7.returnOut hx Bd.returns (hb hby d8_76) hr
  · show QRF Z pq fx fs jr sn h0 n0 _ T7.heap _
    rw [e7]
    exact ⟨rfl, N4, kp8, ⟨Epd1, Fapd1, Fbpd1, Fcpd1, Fdpd1⟩⟩
set_option maxRecDepth 65536 in
set_option maxHeartbeats 40000000 in
theorem rm8_lt_wr (l : Launch) (Z : State) (a0 : Array Value) (hw : ∀ d ∈ tables_1, d.before a0 Z = true) (ws : List Jvm.Cond) (old : Int64) (pq : Addr) (fx : Int64) (fs : Int64) (jr : Value) (sn : Value) (a3 : Addr) (a4 : Addr) (x : Int64) (sq : Int64) (h0 : Heap) (n0 : Nat) (Z0 : n0 ≤ h0.size) (g0_pq : n0 ≤ pq) (PA : PdAt Z h0 pq fx fs jr sn) (E3 : Exa Z h0 a3 "java/lang/Long") (F3 : Fld Z h0 a3 "java/lang/Long" "value" "J" (.long x)) (E4 : Exa Z h0 a4 "java/lang/Long") (F4 : Fld Z h0 a4 "java/lang/Long" "value" "J" (.long sq)) (hc18 : x < old) (hc41 : ¬ (fx < x)) (hc51 : x = fx) (hc61 : fs < sq) :
    MetFree l nm_8 (head1 (Jvm.Cond.code nm_8 prog_27_method_6_code 9 none :: ws) rr_1_0_0_12) (fun aa zU => aa = #[(.ref pq), (.long old), (.ref a3), (.ref a4)] ∧ Z.Warmed39 zU.vm ∧ zU.heap = h0) (fun _ _ _ _ _ => True) (fun _ zU zo zU' => ∃ zv zL, zo = .returned zv ∧ QRF Z pq x sq jr sn h0 n0 zv zU'.heap zL ∧ FrameEnd zU zo zU' zL rr_1_0_0_12.cells rr_1_0_0_12.slots) := by
  refine MetFree.of_bodySF (plainFor_of_name pn_com_example_keyed_work_queue_keyedworkqueue_Pending) hisR ?_
  intro p e s m args below meth c s₁ Bd hml0 hP hK
  obtain ⟨rfl, hZ, hh⟩ := hP
  have hx := Bd.exec
  have hby := Bd.bytes
  have hml : c.maxLocals = 9 := hml0
  have hown : s.vm.findClass "com/example/keyed_work_queue/keyedworkqueue/Pending" = some m.cls := findClass_of_methodNamed Bd.named
  have hnm := (name_of_methodNamed Bd.named Bd.method).1
  have X0 : Stand p l e rr_1_0_0_12 s m #[(.ref pq), (.long old), (.ref a3), (.ref a4)] below meth c s₁ [] 0 0 := Stand.of_body Bd
  have e0 : s₁.heap = h0 := by rw [← hh, Bd.state]; rfl
  have N0 := Fr.nil n0
  have pre0 : ∀ t, Steps p.tables e below (s₁.setTop (mkF m 0 #[.val (.ref pq), .val (.long old), .second, .val (.ref a3), .val (.ref a4), .unset, .unset, .unset, .unset] [])) t → Steps p.tables e below (s₁.setTop (entryFrame m #[(.ref pq), (.long old), (.ref a3), (.ref a4)] 9)) t := fun t k => castTop (ef_8 m pq old a3 a4) k
  obtain ⟨Epd1, Fapd1, Fbpd1, Fcpd1, Fdpd1⟩ := PA
  obtain ⟨cq2, kq2, q2a, q2b, q2c⟩ := isOf hZ e0 E3
  obtain ⟨_, _, ⟨T2, L2, k2, n2⟩, -, X2, ⟨Lc2, hQ2, l2, y2, z2⟩, st2⟩ := X0.virtualBack hx (y := nm_9) (z := nm_9) hown (mvT hZ (ow hw 57 rfl)) (mvT hZ (ow hw 58 rfl)) (notFace_of_selects (args := #[]) (mvT hZ (ow hw 60 rfl))) (mvT hZ (ow hw 60 rfl)) (mvT hZ (ow hw 59 rfl)) (by decide) (backOf (W := 0) (rm9 l Z a0 hw [] a3 x h0 n0 Z0 F3) hZ (ow hw 61 rfl) (ow hw 25 rfl) (by decide) (by decide)) q2a q2c (g := (mkF m 13 #[.val (.ref pq), .val (.long old), .second, .val (.ref a3), .val (.ref a4), .val (.long old), .second, .val (.long (-9223372036854775808 : Int64)), .second] [(.ref a3)])) rfl (by rw [hml]; rfl) (Steps.refl _) (argsL := []) (rest := []) (lenOf pd_6 rfl) rfl (by show 2 * 0 + _ ≤ _; exact Nat.le_of_eq rfl) (hb hby d8_13) (fun _ _ => ⟨rfl, e0, (by decide : 0 + 0 ≤ _), (by decide : 0 + 0 ≤ _)⟩)
  dsimp only [Pt.U, Pt.locs, Pt.cells, Pt.slots] at X2 l2 y2 z2 st2 hQ2
  subst l2 y2 z2
  obtain ⟨rfl, N2q, e2⟩ := hQ2
  have N2 := Fr.app N0 N2q
  obtain ⟨cq3, kq3, q3a, q3b, q3c⟩ := isOf hZ e2 E3
  obtain ⟨_, _, ⟨T3, L3, k3, n3⟩, -, X3, ⟨Lc3, hQ3, l3, y3, z3⟩, st3⟩ := X2.virtualBack hx (y := nm_9) (z := nm_9) hown (mvT hZ (ow hw 57 rfl)) (mvT hZ (ow hw 58 rfl)) (notFace_of_selects (args := #[]) (mvT hZ (ow hw 60 rfl))) (mvT hZ (ow hw 60 rfl)) (mvT hZ (ow hw 59 rfl)) (by decide) (backOf (W := 0) (rm9 l Z a0 hw [] a3 x h0 n0 Z0 F3) hZ (ow hw 61 rfl) (ow hw 25 rfl) (by decide) (by decide)) q3a q3c (g := (mkF m 22 #[.val (.ref pq), .val (.long old), .second, .val (.ref a3), .val (.ref a4), .val (.long old), .second, .val (.long (-9223372036854775808 : Int64)), .second] [(.ref a3)])) rfl (by rw [hml]; rfl) (Steps.refl _) (argsL := []) (rest := []) (lenOf pd_6 rfl) rfl (by show 2 * 0 + _ ≤ _; exact Nat.le_of_eq rfl) (hb hby d8_22) (fun _ _ => ⟨rfl, e2, (by decide : 0 + 0 ≤ _), (by decide : 0 + 0 ≤ _)⟩)
  dsimp only [Pt.U, Pt.locs, Pt.cells, Pt.slots] at X3 l3 y3 z3 st3 hQ3
  subst l3 y3 z3
  obtain ⟨rfl, N3q, e3⟩ := hQ3
  have N3 := Fr.app N2 N3q
  obtain ⟨cq4, kq4, q4a, q4b, q4c⟩ := isOf hZ e3 E4
  obtain ⟨_, _, ⟨T4, L4, k4, n4⟩, -, X4, ⟨Lc4, hQ4, l4, y4, z4⟩, st4⟩ := X3.virtualBack hx (y := nm_9) (z := nm_9) hown (mvT hZ (ow hw 57 rfl)) (mvT hZ (ow hw 58 rfl)) (notFace_of_selects (args := #[]) (mvT hZ (ow hw 60 rfl))) (mvT hZ (ow hw 60 rfl)) (mvT hZ (ow hw 59 rfl)) (by decide) (backOf (W := 0) (rm9 l Z a0 hw [] a4 sq h0 n0 Z0 F4) hZ (ow hw 61 rfl) (ow hw 25 rfl) (by decide) (by decide)) q4a q4c (g := (mkF m 29 #[.val (.ref pq), .val (.long old), .second, .val (.ref a3), .val (.ref a4), .val (.long x), .second, .val (.long (-9223372036854775808 : Int64)), .second] [(.ref a4)])) rfl (by rw [hml]; rfl) (Steps.refl _) (argsL := []) (rest := []) (lenOf pd_6 rfl) rfl (by show 2 * 0 + _ ≤ _; exact Nat.le_of_eq rfl) (hb hby d8_29) (fun _ _ => ⟨rfl, e3, (by decide : 0 + 0 ≤ _), (by decide : 0 + 0 ≤ _)⟩)
  dsimp only [Pt.U, Pt.locs, Pt.cells, Pt.slots] at X4 l4 y4 z4 st4 hQ4
  subst l4 y4 z4
  obtain ⟨rfl, N4q, e4⟩ := hQ4
  have N4 := Fr.app N3 N4q
  obtain ⟨T5, X5, e5, st5⟩ := getF X4 hx hZ hown (host := "") (Or.inl (ow hw 10 rfl)) Via.refl e4 Fapd1 (g := (mkF m 37 #[.val (.ref pq), .val (.long old), .second, .val (.ref a3), .val (.ref a4), .val (.long x), .second, .val (.long sq), .second] [(.ref pq), (.long x)])) rfl rfl (hb hby d8_37)
  obtain ⟨T6, X6, e6, st6⟩ := getF X5 hx hZ hown (host := "") (Or.inl (ow hw 10 rfl)) Via.refl e5 Fapd1 (g := (mkF m 47 #[.val (.ref pq), .val (.long old), .second, .val (.ref a3), .val (.ref a4), .val (.long x), .second, .val (.long sq), .second] [(.ref pq), (.long x)])) rfl rfl (hb hby d8_47)
  obtain ⟨T7, X7, e7, st7⟩ := getF X6 hx hZ hown (host := "") (Or.inl (ow hw 12 rfl)) Via.refl e6 Fbpd1 (g := (mkF m 57 #[.val (.ref pq), .val (.long old), .second, .val (.ref a3), .val (.ref a4), .val (.long x), .second, .val (.long sq), .second] [(.ref pq), (.long sq)])) rfl rfl (hb hby d8_57)
  obtain ⟨T8, h8, X8, e8, W8, st8⟩ := putF X7 hx hZ hown (host := "") (Or.inl (ow hw 10 rfl)) Via.refl e7 Fapd1 Epd1 (Or.inl (ow hw 11 rfl)) (ow hw 1 rfl) (ty := .long) (by decide) rfl rfl (g := (mkF m 67 #[.val (.ref pq), .val (.long old), .second, .val (.ref a3), .val (.ref a4), .val (.long x), .second, .val (.long sq), .second] [(.long x), (.ref pq)])) rfl rfl (hb hby d8_67)
  have Fw8 := Fapd1.same W8
  have N8 := Fr.snoc X8 N4 g0_pq
  have c10 := Fbpd1.other W8 (Or.inr (slot_ne (Or.inl (ow hw 13 rfl)) (Or.inl (ow hw 11 rfl)) (by decide) (t := .long) (t' := .long) (by decide) (by decide)))
  have c11 := Epd1.wr W8
  obtain ⟨T9, h9, X9, e9, W9, st9⟩ := putF X8 hx hZ hown (host := "") (Or.inl (ow hw 12 rfl)) Via.refl e8 c10 c11 (Or.inl (ow hw 13 rfl)) (ow hw 1 rfl) (ty := .long) (by decide) rfl rfl (g := (mkF m 73 #[.val (.ref pq), .val (.long old), .second, .val (.ref a3), .val (.ref a4), .val (.long x), .second, .val (.long sq), .second] [(.long sq), (.ref pq)])) rfl rfl (hb hby d8_73)
  have Fw9 := c10.same W9
  have N9 := Fr.snoc X9 N8 g0_pq
  have kp12 : Keep h0 h9 [pq] := (((Keep.refl h0 [pq]).wr W8 (Or.inl (List.mem_of_getElem? (i := 0) rfl))).wr W9 (Or.inl (List.mem_of_getElem? (i := 0) rfl)))
  have c13 := c11.wr W9
  have c14 := Fw8.other W9 (Or.inr (slot_ne (Or.inl (ow hw 11 rfl)) (Or.inl (ow hw 13 rfl)) (by decide) (t := .long) (t' := .long) (by decide) (by decide)))
  have c15 := Fcpd1.other W8 (Or.inr (slot_ne (Or.inl (ow hw 52 rfl)) (Or.inl (ow hw 11 rfl)) (by decide) (t := (.object "java/lang/Long")) (t' := .long) (by decide) (by decide)))
  have c16 := c15.other W9 (Or.inr (slot_ne (Or.inl (ow hw 52 rfl)) (Or.inl (ow hw 13 rfl)) (by decide) (t := (.object "java/lang/Long")) (t' := .long) (by decide) (by decide)))
  have c17 := Fdpd1.other W8 (Or.inr (slot_ne (Or.inl (ow hw 15 rfl)) (Or.inl (ow hw 11 rfl)) (by decide) (t := .boolean) (t' := .long) (by decide) (by decide)))
  have c18 := c17.other W9 (Or.inr (slot_ne (Or.inl (ow hw 15 rfl)) (Or.inl (ow hw 13 rfl)) (by decide) (t := .boolean) (t' := .long) (by decide) (by decide)))
  obtain ⟨fsq, hr, hrun, hended, hW, hsame⟩ := X9.leave (v := none) (fun _ => rfl)
  refine ⟨_, _, pre0 _ ?_, hrun, hended, _, _, rfl, ?_, ⟨_, rfl⟩, hW, hsame.mono (by decide) (by decide)⟩
  · show Steps p.tables e below (s₁.setTop (mkF m 0 #[.val (.ref pq), .val (.long old), .second, .val (.ref a3), .val (.ref a4), .unset, .unset, .unset, .unset] [])) _
    refine XS.lloadN X0.here hx rfl (hb hby d8_0) rfl ?_
    refine XS.lstore X0.here hx rfl (hb hby d8_1) rfl (l' := #[.val (.ref pq), .val (.long old), .second, .val (.ref a3), .val (.ref a4), .val (.long old), .second, .unset, .unset]) rfl ?_
    refine X0.ldc2Long hx hown (mvT hZ (ow hw 9 rfl)) (g := (mkF m 3 #[.val (.ref pq), .val (.long old), .second, .val (.ref a3), .val (.ref a4), .val (.long old), .second, .unset, .unset] [])) rfl (hb hby d8_3) _ ?_
    refine XS.lstore X0.here hx rfl (hb hby d8_6) rfl (l' := #[.val (.ref pq), .val (.long old), .second, .val (.ref a3), .val (.ref a4), .val (.long old), .second, .val (.long (-9223372036854775808 : Int64)), .second]) rfl ?_
    refine XS.aloadN X0.here hx rfl (hb hby d8_8) rfl rfl ?_
    refine XS.ifnullNo X0.here hx rfl (hb hby d8_9) rfl ?_
    refine XS.aloadN X0.here hx rfl (hb hby d8_12) rfl rfl ?_
    refine st2.trans ?_
    refine XS.lloadN X2.here hx rfl (hb hby d8_16) rfl ?_
    show Steps p.tables e below (T2.setTop (mkF m 17 #[.val (.ref pq), .val (.long old), .second, .val (.ref a3), .val (.ref a4), .val (.long old), .second, .val (.long (-9223372036854775808 : Int64)), .second] [(.long old), (.long x)])) _
    refine XS.lcmp X2.here hx rfl (hb hby d8_17) rfl ?_
    refine XS.ifNo X2.here hx rfl (hb hby d8_18) rfl ((if0 _ _).trans (tlt ((lw_lt _ _).mpr hc18)).2.1) ?_
    refine XS.aloadN X2.here hx rfl (hb hby d8_21) rfl rfl ?_
    refine st3.trans ?_
    refine XS.lstore X3.here hx rfl (hb hby d8_25) rfl (l' := #[.val (.ref pq), .val (.long old), .second, .val (.ref a3), .val (.ref a4), .val (.long x), .second, .val (.long (-9223372036854775808 : Int64)), .second]) rfl ?_
    refine XS.aload X3.here hx rfl (hb hby d8_27) rfl rfl ?_
    refine st4.trans ?_
    refine XS.lstore X4.here hx rfl (hb hby d8_32) rfl (l' := #[.val (.ref pq), .val (.long old), .second, .val (.ref a3), .val (.ref a4), .val (.long x), .second, .val (.long sq), .second]) rfl ?_
    refine XS.lload X4.here hx rfl (hb hby d8_34) rfl ?_
    show Steps p.tables e below (T4.setTop (mkF m 36 #[.val (.ref pq), .val (.long old), .second, .val (.ref a3), .val (.ref a4), .val (.long x), .second, .val (.long sq), .second] [(.long x)])) _
    refine XS.aloadN X4.here hx rfl (hb hby d8_36) rfl rfl ?_
    refine st5 _ ?_
    refine XS.lcmp X5.here hx rfl (hb hby d8_40) rfl ?_
    refine XS.ifNo X5.here hx rfl (hb hby d8_41) rfl ((if0 _ _).trans (flt (fun z => hc41 ((lw_gt _ _).mp z))).2.2.1) ?_
    refine XS.lload X5.here hx rfl (hb hby d8_44) rfl ?_
    refine XS.aloadN X5.here hx rfl (hb hby d8_46) rfl rfl ?_
    refine st6 _ ?_
    refine XS.lcmp X6.here hx rfl (hb hby d8_50) rfl ?_
    refine XS.ifNo X6.here hx rfl (hb hby d8_51) rfl ((if0 _ _).trans (teq ((lw_eq _ _).mpr hc51)).2) ?_
    show Steps p.tables e below (T6.setTop (mkF m 54 #[.val (.ref pq), .val (.long old), .second, .val (.ref a3), .val (.ref a4), .val (.long x), .second, .val (.long sq), .second] [])) _
    refine XS.lload X6.here hx rfl (hb hby d8_54) rfl ?_
    refine XS.aloadN X6.here hx rfl (hb hby d8_56) rfl rfl ?_
    refine st7 _ ?_
    refine XS.lcmp X7.here hx rfl (hb hby d8_60) rfl ?_
    refine XS.ifNo X7.here hx rfl (hb hby d8_61) rfl ((if0 _ _).trans (tlt ((lw_gt _ _).mpr hc61)).2.2.2) ?_
    refine XS.aloadN X7.here hx rfl (hb hby d8_64) rfl rfl ?_
    refine XS.lload X7.here hx rfl (hb hby d8_65) rfl ?_
    refine st8 _ ?_
    refine XS.aloadN X8.here hx rfl (hb hby d8_70) rfl rfl ?_
    show Steps p.tables e below (T8.setTop (mkF m 71 #[.val (.ref pq), .val (.long old), .second, .val (.ref a3), .val (.ref a4), .val (.long x), .second, .val (.long sq), .second] [(.ref pq)])) _
    refine XS.lload X8.here hx rfl (hb hby d8_71) rfl ?_
    refine st9 _ ?_
    show Steps p.tables e below (T9.setTop (mkF m 76 #[.val (.ref pq), .val (.long old), .second, .val (.ref a3), .val (.ref a4), .val (.long x), .second, .val (.long sq), .second] [])) _
    exact X9.returnOut hx Bd.returns (hb hby d8_76) hr
  · show QRF Z pq x sq jr sn h0 n0 _ T9.heap _
    rw [e9]
    exact ⟨rfl, N9, kp12, ⟨c13, c14, Fw9, c16, c18⟩⟩
theorem rm8 (l : Launch) (Z : State) (a0 : Array Value) (hw : ∀ d ∈ tables_1, d.before a0 Z = true) (ws : List Jvm.Cond) (old : Int64) (r1 : Value) (r2 : Value) (o1 : Option (Int64 × Int64)) (pq : Addr) (fx : Int64) (fs : Int64) (jr : Value) (sn : Value) (h0 : Heap) (n0 : Nat) (Z0 : n0 ≤ h0.size) (g0_pq : n0 ≤ pq) (PA : PdAt Z h0 pq fx fs jr sn) (L12 : LR2 Z h0 r1 r2 o1) :
    MetFree l nm_8 (head1 (Jvm.Cond.code nm_8 prog_27_method_6_code 9 none :: ws) rr_1_0_0_12) (fun aa zU => aa = #[(.ref pq), (.long old), r1, r2] ∧ Z.Warmed39 zU.vm ∧ zU.heap = h0) (fun _ _ _ _ _ => True) (fun _ zU zo zU' => ∃ zv zL, zo = .returned zv ∧ QRF Z pq (own_raise (fx, fs) (own_cand old o1)).1 (own_raise (fx, fs) (own_cand old o1)).2 jr sn h0 n0 zv zU'.heap zL ∧ FrameEnd zU zo zU' zL rr_1_0_0_12.cells rr_1_0_0_12.slots) := by
  rcases L12 with ⟨rfl, rfl, rfl⟩ | ⟨a3, a4, x, sq, rfl, rfl, rfl, E3, F3, E4, F4⟩
  · rw [show own_cand old none = (old, (-9223372036854775808 : Int64)) from rfl]
    by_cases c1 : fx < old
    · rw [show own_raise (fx, fs) (old, (-9223372036854775808 : Int64)) = (old, (-9223372036854775808 : Int64)) from if_pos (Or.inl c1)]; exact rm8_N_gt l Z a0 hw ws old pq fx fs jr sn h0 n0 Z0 g0_pq PA c1
    by_cases c2 : old = fx
    · by_cases c3 : fs < (-9223372036854775808 : Int64)
      · rw [show own_raise (fx, fs) (old, (-9223372036854775808 : Int64)) = (old, (-9223372036854775808 : Int64)) from if_pos (Or.inr ⟨c2, c3⟩)]; exact rm8_N_wr l Z a0 hw ws old pq fx fs jr sn h0 n0 Z0 g0_pq PA c1 c2 c3
      · rw [show own_raise (fx, fs) (old, (-9223372036854775808 : Int64)) = (fx, fs) from if_neg (fun z => z.elim c1 fun z => c3 z.2)]; exact rm8_N_le l Z a0 hw ws old pq fx fs jr sn h0 n0 Z0 g0_pq PA c1 c2 c3
    · rw [show own_raise (fx, fs) (old, (-9223372036854775808 : Int64)) = (fx, fs) from if_neg (fun z => z.elim c1 fun z => c2 z.1)]; exact rm8_N_ne l Z a0 hw ws old pq fx fs jr sn h0 n0 Z0 g0_pq PA c1 c2
  by_cases c0 : x < old
  · rw [show own_cand old (some (x, sq)) = (x, sq) from if_pos c0]
    by_cases c1 : fx < x
    · rw [show own_raise (fx, fs) (x, sq) = (x, sq) from if_pos (Or.inl c1)]; exact rm8_lt_gt l Z a0 hw ws old pq fx fs jr sn a3 a4 x sq h0 n0 Z0 g0_pq PA E3 F3 E4 F4 c0 c1
    by_cases c2 : x = fx
    · by_cases c3 : fs < sq
      · rw [show own_raise (fx, fs) (x, sq) = (x, sq) from if_pos (Or.inr ⟨c2, c3⟩)]; exact rm8_lt_wr l Z a0 hw ws old pq fx fs jr sn a3 a4 x sq h0 n0 Z0 g0_pq PA E3 F3 E4 F4 c0 c1 c2 c3
      · rw [show own_raise (fx, fs) (x, sq) = (fx, fs) from if_neg (fun z => z.elim c1 fun z => c3 z.2)]; exact rm8_lt_le l Z a0 hw ws old pq fx fs jr sn a3 a4 x sq h0 n0 Z0 g0_pq PA E3 F3 E4 F4 c0 c1 c2 c3
    · rw [show own_raise (fx, fs) (x, sq) = (fx, fs) from if_neg (fun z => z.elim c1 fun z => c2 z.1)]; exact rm8_lt_ne l Z a0 hw ws old pq fx fs jr sn a3 a4 x sq h0 n0 Z0 g0_pq PA E3 F3 E4 F4 c0 c1 c2
  · rw [show own_cand old (some (x, sq)) = (old, (-9223372036854775808 : Int64)) from if_neg c0]
    by_cases c1 : fx < old
    · rw [show own_raise (fx, fs) (old, (-9223372036854775808 : Int64)) = (old, (-9223372036854775808 : Int64)) from if_pos (Or.inl c1)]; exact rm8_ge_gt l Z a0 hw ws old pq fx fs jr sn a3 a4 x sq h0 n0 Z0 g0_pq PA E3 F3 E4 F4 c0 c1
    by_cases c2 : old = fx
    · by_cases c3 : fs < (-9223372036854775808 : Int64)
      · rw [show own_raise (fx, fs) (old, (-9223372036854775808 : Int64)) = (old, (-9223372036854775808 : Int64)) from if_pos (Or.inr ⟨c2, c3⟩)]; exact rm8_ge_wr l Z a0 hw ws old pq fx fs jr sn a3 a4 x sq h0 n0 Z0 g0_pq PA E3 F3 E4 F4 c0 c1 c2 c3
      · rw [show own_raise (fx, fs) (old, (-9223372036854775808 : Int64)) = (fx, fs) from if_neg (fun z => z.elim c1 fun z => c3 z.2)]; exact rm8_ge_le l Z a0 hw ws old pq fx fs jr sn a3 a4 x sq h0 n0 Z0 g0_pq PA E3 F3 E4 F4 c0 c1 c2 c3
    · rw [show own_raise (fx, fs) (old, (-9223372036854775808 : Int64)) = (fx, fs) from if_neg (fun z => z.elim c1 fun z => c2 z.1)]; exact rm8_ge_ne l Z a0 hw ws old pq fx fs jr sn a3 a4 x sq h0 n0 Z0 g0_pq PA E3 F3 E4 F4 c0 c1 c2
abbrev rr_2_0_0_32 : Room := { frames := 2, cells := 0, slots := 0, locals := 32 }
def own_or (a b : Option Int64) : Option Int64 := match a with | some v => some v | none => b
def own_rr (a : Option Int64) (r3 r4 : Value) : Value := match a with | some _ => r3 | none => r4
def own_same (oj oi : Option Int64) : Bool := match oj with | none => false | some v => decide (oi = some v)
def own_jo (oj o3 o4 : Option Int64) : Option Int64 := if (o3.isSome || own_same oj (own_or o3 o4)) = true then own_or o3 o4 else none
def own_jr (oj o3 o4 : Option Int64) (r3 r4 : Value) : Value := if (o3.isSome || own_same oj (own_or o3 o4)) = true then own_rr o3 r3 r4 else .null
def own_fl (oj oi : Option Int64) (f c : Int64 × Int64) : Int64 × Int64 := if own_same oj oi = true then f else own_raise f c
def own_sn (o : Option (Int64 × Int64)) : Value := match o with | some _ => .int (1 : Int32) | none => .int (0 : Int32)
theorem LR2.ref1 {Z : State} {h : Heap} {r1 r2 : Value} {o : Option (Int64 × Int64)} (F : LR2 Z h r1 r2 o) : r1.isRef = true ∧ r2.isRef = true := by
  rcases F with ⟨-, rfl, rfl⟩ | ⟨a, b, x, s, -, rfl, rfl, -⟩ <;> exact ⟨rfl, rfl⟩
theorem d7_0 : decode prog_27_method_5_code 0 = .ok (.aload 5, 2) := by decide +kernel
theorem d7_2 : decode prog_27_method_5_code 2 = .ok (.ifnonnull 8, 3) := by decide +kernel
theorem d7_10 : decode prog_27_method_5_code 10 = .ok (.aload 5, 2) := by decide +kernel
theorem d7_12 : decode prog_27_method_5_code 12 = .ok (.astore 7, 2) := by decide +kernel
theorem d7_14 : decode prog_27_method_5_code 14 = .ok (.aload_n 0, 1) := by decide +kernel
theorem d7_15 : decode prog_27_method_5_code 15 = .ok (.getfield 24, 3) := by decide +kernel
theorem d7_18 : decode prog_27_method_5_code 18 = .ok (.ifnull 19, 3) := by decide +kernel
theorem d7_37 : decode prog_27_method_5_code 37 = .ok (.iconst 0, 1) := by decide +kernel
theorem d7_38 : decode prog_27_method_5_code 38 = .ok (.istore 8, 2) := by decide +kernel
theorem d7_40 : decode prog_27_method_5_code 40 = .ok (.iload 8, 2) := by decide +kernel
theorem d7_42 : decode prog_27_method_5_code 42 = .ok (.ifCond .ne 11, 3) := by decide +kernel
theorem d7_45 : decode prog_27_method_5_code 45 = .ok (.aload_n 0, 1) := by decide +kernel
theorem d7_46 : decode prog_27_method_5_code 46 = .ok (.lload_n 1, 1) := by decide +kernel
theorem d7_47 : decode prog_27_method_5_code 47 = .ok (.aload_n 3, 1) := by decide +kernel
theorem d7_48 : decode prog_27_method_5_code 48 = .ok (.aload 4, 2) := by decide +kernel
theorem pd_5 : parseMethodDescriptor "(JLjava/lang/Long;Ljava/lang/Long;)V" = some ⟨[.long, (.object "java/lang/Long"), (.object "java/lang/Long")], none⟩ := by decide +kernel
theorem d7_50 : decode prog_27_method_5_code 50 = .ok (.invokevirtual 32, 3) := by decide +kernel
theorem d7_53 : decode prog_27_method_5_code 53 = .ok (.aload_n 0, 1) := by decide +kernel
theorem d7_54 : decode prog_27_method_5_code 54 = .ok (.aload 5, 2) := by decide +kernel
theorem d7_56 : decode prog_27_method_5_code 56 = .ok (.ifnonnull 8, 3) := by decide +kernel
theorem d7_64 : decode prog_27_method_5_code 64 = .ok (.aload 7, 2) := by decide +kernel
theorem d7_66 : decode prog_27_method_5_code 66 = .ok (.goto 4, 3) := by decide +kernel
theorem d7_70 : decode prog_27_method_5_code 70 = .ok (.putfield 24, 3) := by decide +kernel
theorem d7_73 : decode prog_27_method_5_code 73 = .ok (.aload_n 0, 1) := by decide +kernel
theorem d7_74 : decode prog_27_method_5_code 74 = .ok (.aload_n 3, 1) := by decide +kernel
theorem d7_75 : decode prog_27_method_5_code 75 = .ok (.ifnull 7, 3) := by decide +kernel
theorem d7_78 : decode prog_27_method_5_code 78 = .ok (.iconst 1, 1) := by decide +kernel
theorem d7_79 : decode prog_27_method_5_code 79 = .ok (.goto 4, 3) := by decide +kernel
theorem d7_83 : decode prog_27_method_5_code 83 = .ok (.putfield 20, 3) := by decide +kernel
theorem d7_86 : decode prog_27_method_5_code 86 = .ok (.return_, 1) := by decide +kernel
theorem ef_7_RJRRRG (m : MethodId) (x0 : Addr) (x1 : Int64) (x2 : Addr) (x3 : Addr) (x4 : Addr) (x5 : Value) (hx5 : x5.isRef = true) : entryFrame m #[(.ref x0), (.long x1), (.ref x2), (.ref x3), (.ref x4), x5] 9 = mkF m 0 #[.val (.ref x0), .val (.long x1), .second, .val (.ref x2), .val (.ref x3), .val (.ref x4), .val x5, .unset, .unset] [] := by
  rcases ref_cases hx5 with rfl | ⟨z5, rfl⟩ <;> (first | (simp [entryFrame, mkF, argsToLocals, Value.category]; done) | rfl)
abbrev nm_7 : MethodName := ⟨"com/example/keyed_work_queue/keyedworkqueue/Pending", "found", "(JLjava/lang/Long;Ljava/lang/Long;Ljava/lang/Long;Ljava/lang/Long;)V"⟩
set_option maxRecDepth 65536 in
set_option maxHeartbeats 40000000 in
theorem rm7_R_N_R (l : Launch) (Z : State) (a0 : Array Value) (hw : ∀ d ∈ tables_1, d.before a0 Z = true) (ws : List Jvm.Cond) (old : Int64) (pq : Addr) (fx : Int64) (fs : Int64) (sn : Value) (r4 : Value) (a3 : Addr) (a4 : Addr) (x : Int64) (sq : Int64) (a5 : Addr) (v5 : Int64) (h0 : Heap) (n0 : Nat) (Z0 : n0 ≤ h0.size) (h4 : r4.isRef = true) (g0_pq : n0 ≤ pq) (PA : PdAt Z h0 pq fx fs .null sn) (L12 : LR2 Z h0 (.ref a3) (.ref a4) (some (x, sq))) (Lin : LR Z h0 (.ref a5) (some v5)) :
    MetFree l nm_7 (head1 (Jvm.Cond.code nm_7 prog_27_method_5_code 9 none :: ws) rr_2_0_0_32) (fun aa zU => aa = #[(.ref pq), (.long old), (.ref a3), (.ref a4), (.ref a5), r4] ∧ Z.Warmed39 zU.vm ∧ zU.heap = h0) (fun _ _ _ _ _ => True) (fun _ zU zo zU' => ∃ zv zL, zo = .returned zv ∧ QRF Z pq (own_raise (fx, fs) (own_cand old (some (x, sq)))).1 (own_raise (fx, fs) (own_cand old (some (x, sq)))).2 (.ref a5) (.int (1 : Int32)) h0 n0 zv zU'.heap zL ∧ FrameEnd zU zo zU' zL rr_2_0_0_32.cells rr_2_0_0_32.slots) := by
  refine MetFree.of_bodySF (plainFor_of_name pn_com_example_keyed_work_queue_keyedworkqueue_Pending) hisR ?_
  intro p e s m args below meth c s₁ Bd hml0 hP hK
  obtain ⟨rfl, hZ, hh⟩ := hP
  have hx := Bd.exec
  have hby := Bd.bytes
  have hml : c.maxLocals = 9 := hml0
  have hown : s.vm.findClass "com/example/keyed_work_queue/keyedworkqueue/Pending" = some m.cls := findClass_of_methodNamed Bd.named
  have hnm := (name_of_methodNamed Bd.named Bd.method).1
  have X0 : Stand p l e rr_2_0_0_32 s m #[(.ref pq), (.long old), (.ref a3), (.ref a4), (.ref a5), r4] below meth c s₁ [] 0 0 := Stand.of_body Bd
  have e0 : s₁.heap = h0 := by rw [← hh, Bd.state]; rfl
  have N0 := Fr.nil n0
  have pre0 : ∀ t, Steps p.tables e below (s₁.setTop (mkF m 0 #[.val (.ref pq), .val (.long old), .second, .val (.ref a3), .val (.ref a4), .val (.ref a5), .val r4, .unset, .unset] [])) t → Steps p.tables e below (s₁.setTop (entryFrame m #[(.ref pq), (.long old), (.ref a3), (.ref a4), (.ref a5), r4] 9)) t := fun t k => castTop (ef_7_RJRRRG m pq old a3 a4 a5 r4 h4) k
  obtain ⟨Epd1, Fapd1, Fbpd1, Fcpd1, Fdpd1⟩ := PA
  obtain ⟨T2, X2, e2, st2⟩ := getF X0 hx hZ hown (host := "") (Or.inl (ow hw 51 rfl)) Via.refl e0 Fcpd1 (g := (mkF m 15 #[.val (.ref pq), .val (.long old), .second, .val (.ref a3), .val (.ref a4), .val (.ref a5), .val r4, .val (.ref a5), .unset] [(.ref pq)])) rfl rfl (hb hby d7_15)
  obtain ⟨cq3, q3, q3'⟩ := Epd1.cell
  obtain ⟨_, _, ⟨T3, L3, k3, n3⟩, -, X3, ⟨Lc3, hQ3, l3, y3, z3⟩, st3⟩ := X2.privateBack hx (y := nm_8) hown (mvT hZ (ow hw 53 rfl)) (mvT hZ (ow hw 54 rfl)) (own_selP (mvT (args := #[]) hZ (ow hw 1 rfl)) (mvP hZ (ow hw 55 rfl) (args := #[])) (mvT hZ (ow hw 54 rfl)) (by decide)) (Cond.privateMethod_at (mvP hZ (ow hw 55 rfl) (args := #[]))) (mvT hZ (ow hw 56 rfl)) (by decide) (backOf (W := 0) (rm8 l Z a0 hw [] old (.ref a3) (.ref a4) (some (x, sq)) pq fx fs .null sn h0 n0 Z0 g0_pq ⟨Epd1, Fapd1, Fbpd1, Fcpd1, Fdpd1⟩ L12) hZ (ow hw 56 rfl) (ow hw 2 rfl) (by decide) (by decide)) (g := (mkF m 50 #[.val (.ref pq), .val (.long old), .second, .val (.ref a3), .val (.ref a4), .val (.ref a5), .val r4, .val (.ref a5), .val (.int (0 : Int32))] [(.ref a4), (.ref a3), (.long old), (.ref pq)])) rfl (by rw [hml]; rfl) (Steps.refl _) (a := pq) (by rw [e2]; exact q3) q3' (argsL := [(.long old), (.ref a3), (.ref a4)]) (rest := []) (lenOf pd_5 rfl) rfl (by show 2 * 0 + _ ≤ _; exact Nat.le_of_eq rfl) (hb hby d7_50) (fun _ _ => ⟨rfl, e2, (by decide : 0 + 0 ≤ _), (by decide : 0 + 0 ≤ _)⟩)
  dsimp only [Pt.U, Pt.locs, Pt.cells, Pt.slots] at X3 l3 y3 z3 st3 hQ3
  subst l3 y3 z3
  obtain ⟨rfl, N3q, K3, PB3⟩ := hQ3
  have N3 := Fr.app N0 N3q
  obtain ⟨Epd4, Fapd4, Fbpd4, Fcpd4, Fdpd4⟩ := PB3
  obtain ⟨T5, h5, X5, e5, W5, st5⟩ := putF X3 hx hZ hown (host := "") (Or.inl (ow hw 51 rfl)) Via.refl rfl Fcpd4 Epd4 (Or.inl (ow hw 52 rfl)) (ow hw 1 rfl) (ty := (.object "java/lang/Long")) (by decide) rfl rfl (g := (mkF m 70 #[.val (.ref pq), .val (.long old), .second, .val (.ref a3), .val (.ref a4), .val (.ref a5), .val r4, .val (.ref a5), .val (.int (0 : Int32))] [(.ref a5), (.ref pq)])) rfl rfl (hb hby d7_70)
  have Fw5 := Fcpd4.same W5
  have N5 := Fr.snoc X5 N3 g0_pq
  have c7 := Fdpd4.other W5 (Or.inr (slot_ne (Or.inl (ow hw 15 rfl)) (Or.inl (ow hw 52 rfl)) (by decide) (t := .boolean) (t' := (.object "java/lang/Long")) (by decide) (by decide)))
  have c8 := Epd4.wr W5
  obtain ⟨T6, h6, X6, e6, W6, st6⟩ := putFN X5 hx hZ hown (ow hw 14 rfl) Via.refl e5 c7 c8 (Or.inl (ow hw 15 rfl)) (ow hw 1 rfl) (ty := .boolean) (v' := (.int (1 : Int32))) (by decide) rfl rfl (g := (mkF m 83 #[.val (.ref pq), .val (.long old), .second, .val (.ref a3), .val (.ref a4), .val (.ref a5), .val r4, .val (.ref a5), .val (.int (0 : Int32))] [(.int (1 : Int32)), (.ref pq)])) rfl rfl (hb hby d7_83)
  have Fw6 := c7.same W6
  have N6 := Fr.snoc X6 N5 g0_pq
  have kp9 : Keep h0 h6 [pq] := ((((Keep.refl h0 [pq]).trans K3 (allS (Or.inl (List.mem_of_getElem? (i := 0) rfl)) all0)).wr W5 (Or.inl (List.mem_of_getElem? (i := 0) rfl))).wr W6 (Or.inl (List.mem_of_getElem? (i := 0) rfl)))
  have c10 := c8.wr W6
  have c11 := Fapd4.other W5 (Or.inr (slot_ne (Or.inl (ow hw 11 rfl)) (Or.inl (ow hw 52 rfl)) (by decide) (t := .long) (t' := (.object "java/lang/Long")) (by decide) (by decide)))
  have c12 := c11.other W6 (Or.inr (slot_ne (Or.inl (ow hw 11 rfl)) (Or.inl (ow hw 15 rfl)) (by decide) (t := .long) (t' := .boolean) (by decide) (by decide)))
  have c13 := Fbpd4.other W5 (Or.inr (slot_ne (Or.inl (ow hw 13 rfl)) (Or.inl (ow hw 52 rfl)) (by decide) (t := .long) (t' := (.object "java/lang/Long")) (by decide) (by decide)))
  have c14 := c13.other W6 (Or.inr (slot_ne (Or.inl (ow hw 13 rfl)) (Or.inl (ow hw 15 rfl)) (by decide) (t := .long) (t' := .boolean) (by decide) (by decide)))
  have c15 := Fw5.other W6 (Or.inr (slot_ne (Or.inl (ow hw 52 rfl)) (Or.inl (ow hw 15 rfl)) (by decide) (t := (.object "java/lang/Long")) (t' := .boolean) (by decide) (by decide)))
  obtain ⟨fsq, hr, hrun, hended, hW, hsame⟩ := X6.leave (v := none) (fun _ => rfl)
  refine ⟨_, _, pre0 _ ?_, hrun, hended, _, _, rfl, ?_, ⟨_, rfl⟩, hW, hsame.mono (by decide) (by decide)⟩
  · show Steps p.tables e below (s₁.setTop (mkF m 0 #[.val (.ref pq), .val (.long old), .second, .val (.ref a3), .val (.ref a4), .val (.ref a5), .val r4, .unset, .unset] [])) _
    refine XS.aload X0.here hx rfl (hb hby d7_0) rfl rfl ?_
    refine XS.ifnonnullYes X0.here hx rfl (pc0 := 2) (pc' := 10) rfl (hb hby d7_2) rfl (by decide) (by decide) ?_
    refine XS.aload X0.here hx rfl (hb hby d7_10) rfl rfl ?_
    refine XS.astore X0.here hx rfl (hb hby d7_12) rfl rfl (l' := #[.val (.ref pq), .val (.long old), .second, .val (.ref a3), .val (.ref a4), .val (.ref a5), .val r4, .val (.ref a5), .unset]) rfl ?_
    refine XS.aloadN X0.here hx rfl (hb hby d7_14) rfl rfl ?_
    refine st2 _ ?_
    refine XS.ifnullYes X2.here hx rfl (pc0 := 18) (pc' := 37) rfl (hb hby d7_18) rfl (by decide) (by decide) ?_
    refine XS.iconst X2.here hx rfl (hb hby d7_37) ?_
    refine XS.istore X2.here hx rfl (hb hby d7_38) rfl (l' := #[.val (.ref pq), .val (.long old), .second, .val (.ref a3), .val (.ref a4), .val (.ref a5), .val r4, .val (.ref a5), .val (.int (0 : Int32))]) rfl ?_
    show Steps p.tables e below (T2.setTop (mkF m 40 #[.val (.ref pq), .val (.long old), .second, .val (.ref a3), .val (.ref a4), .val (.ref a5), .val r4, .val (.ref a5), .val (.int (0 : Int32))] [])) _
    refine XS.iload X2.here hx rfl (hb hby d7_40) rfl ?_
    refine XS.ifNo X2.here hx rfl (hb hby d7_42) rfl ((if0 _ _).trans (teq (rfl : (0 : Int32) = (0 : Int32))).2) ?_
    refine XS.aloadN X2.here hx rfl (hb hby d7_45) rfl rfl ?_
    refine XS.lloadN X2.here hx rfl (hb hby d7_46) rfl ?_
    refine XS.aloadN X2.here hx rfl (hb hby d7_47) rfl rfl ?_
    refine XS.aload X2.here hx rfl (hb hby d7_48) rfl rfl ?_
    refine st3.trans ?_
    refine XS.aloadN X3.here hx rfl (hb hby d7_53) rfl rfl ?_
    refine XS.aload X3.here hx rfl (hb hby d7_54) rfl rfl ?_
    show Steps p.tables e below (T3.setTop (mkF m 56 #[.val (.ref pq), .val (.long old), .second, .val (.ref a3), .val (.ref a4), .val (.ref a5), .val r4, .val (.ref a5), .val (.int (0 : Int32))] [(.ref a5), (.ref pq)])) _
    refine XS.ifnonnullYes X3.here hx rfl (pc0 := 56) (pc' := 64) rfl (hb hby d7_56) rfl (by decide) (by decide) ?_
    refine XS.aload X3.here hx rfl (hb hby d7_64) rfl rfl ?_
    refine XS.goto X3.here hx rfl (pc0 := 66) (pc' := 70) rfl (hb hby d7_66) (by decide) (by decide) ?_
    refine st5 _ ?_
    refine XS.aloadN X5.here hx rfl (hb hby d7_73) rfl rfl ?_
    refine XS.aloadN X5.here hx rfl (hb hby d7_74) rfl rfl ?_
    refine XS.ifnullNo X5.here hx rfl (hb hby d7_75) rfl ?_
    refine XS.iconst X5.here hx rfl (hb hby d7_78) ?_
    refine XS.goto X5.here hx rfl (pc0 := 79) (pc' := 83) rfl (hb hby d7_79) (by decide) (by decide) ?_
    show Steps p.tables e below (T5.setTop (mkF m 83 #[.val (.ref pq), .val (.long old), .second, .val (.ref a3), .val (.ref a4), .val (.ref a5), .val r4, .val (.ref a5), .val (.int (0 : Int32))] [(.int (1 : Int32)), (.ref pq)])) _
    refine st6 _ ?_
    show Steps p.tables e below (T6.setTop (mkF m 86 #[.val (.ref pq), .val (.long old), .second, .val (.ref a3), .val (.ref a4), .val (.ref a5), .val r4, .val (.ref a5), .val (.int (0 : Int32))] [])) _
    exact X6.returnOut hx Bd.returns (hb hby d7_86) hr
  · show QRF Z pq (own_raise (fx, fs) (own_cand old (some (x, sq)))).1 (own_raise (fx, fs) (own_cand old (some (x, sq)))).2 (.ref a5) (.int (1 : Int32)) h0 n0 _ T6.heap _
    rw [e6]
    exact ⟨rfl, N6, kp9, ⟨c10, c12, c14, c15, Fw6⟩⟩
theorem d7_82 : decode prog_27_method_5_code 82 = .ok (.iconst 0, 1) := by decide +kernel
theorem ef_7_RJNNRG (m : MethodId) (x0 : Addr) (x1 : Int64) (x4 : Addr) (x5 : Value) (hx5 : x5.isRef = true) : entryFrame m #[(.ref x0), (.long x1), .null, .null, (.ref x4), x5] 9 = mkF m 0 #[.val (.ref x0), .val (.long x1), .second, .val .null, .val .null, .val (.ref x4), .val x5, .unset, .unset] [] := by
  rcases ref_cases hx5 with rfl | ⟨z5, rfl⟩ <;> (first | (simp [entryFrame, mkF, argsToLocals, Value.category]; done) | rfl)
set_option maxRecDepth 65536 in
set_option maxHeartbeats 40000000 in
theorem rm7_R_N_N (l : Launch) (Z : State) (a0 : Array Value) (hw : ∀ d ∈ tables_1, d.before a0 Z = true) (ws : List Jvm.Cond) (old : Int64) (pq : Addr) (fx : Int64) (fs : Int64) (sn : Value) (r4 : Value) (a5 : Addr) (v5 : Int64) (h0 : Heap) (n0 : Nat) (Z0 : n0 ≤ h0.size) (h4 : r4.isRef = true) (g0_pq : n0 ≤ pq) (PA : PdAt Z h0 pq fx fs .null sn) (L12 : LR2 Z h0 .null .null none) (Lin : LR Z h0 (.ref a5) (some v5)) :
    MetFree l nm_7 (head1 (Jvm.Cond.code nm_7 prog_27_method_5_code 9 none :: ws) rr_2_0_0_32) (fun aa zU => aa = #[(.ref pq), (.long old), .null, .null, (.ref a5), r4] ∧ Z.Warmed39 zU.vm ∧ zU.heap = h0) (fun _ _ _ _ _ => True) (fun _ zU zo zU' => ∃ zv zL, zo = .returned zv ∧ QRF Z pq (own_raise (fx, fs) (own_cand old none)).1 (own_raise (fx, fs) (own_cand old none)).2 (.ref a5) (.int (0 : Int32)) h0 n0 zv zU'.heap zL ∧ FrameEnd zU zo zU' zL rr_2_0_0_32.cells rr_2_0_0_32.slots) := by
  refine MetFree.of_bodySF (plainFor_of_name pn_com_example_keyed_work_queue_keyedworkqueue_Pending) hisR ?_
  intro p e s m args below meth c s₁ Bd hml0 hP hK
  obtain ⟨rfl, hZ, hh⟩ := hP
  have hx := Bd.exec
  have hby := Bd.bytes
  have hml : c.maxLocals = 9 := hml0
  have hown : s.vm.findClass "com/example/keyed_work_queue/keyedworkqueue/Pending" = some m.cls := findClass_of_methodNamed Bd.named
  have hnm := (name_of_methodNamed Bd.named Bd.method).1
  have X0 : Stand p l e rr_2_0_0_32 s m #[(.ref pq), (.long old), .null, .null, (.ref a5), r4] below meth c s₁ [] 0 0 := Stand.of_body Bd
  have e0 : s₁.heap = h0 := by rw [← hh, Bd.state]; rfl
  have N0 := Fr.nil n0
  have pre0 : ∀ t, Steps p.tables e below (s₁.setTop (mkF m 0 #[.val (.ref pq), .val (.long old), .second, .val .null, .val .null, .val (.ref a5), .val r4, .unset, .unset] [])) t → Steps p.tables e below (s₁.setTop (entryFrame m #[(.ref pq), (.long old), .null, .null, (.ref a5), r4] 9)) t := fun t k => castTop (ef_7_RJNNRG m pq old a5 r4 h4) k
  obtain ⟨Epd1, Fapd1, Fbpd1, Fcpd1, Fdpd1⟩ := PA
  obtain ⟨T2, X2, e2, st2⟩ := getF X0 hx hZ hown (host := "") (Or.inl (ow hw 51 rfl)) Via.refl e0 Fcpd1 (g := (mkF m 15 #[.val (.ref pq), .val (.long old), .second, .val .null, .val .null, .val (.ref a5), .val r4, .val (.ref a5), .unset] [(.ref pq)])) rfl rfl (hb hby d7_15)
  obtain ⟨cq3, q3, q3'⟩ := Epd1.cell
  obtain ⟨_, _, ⟨T3, L3, k3, n3⟩, -, X3, ⟨Lc3, hQ3, l3, y3, z3⟩, st3⟩ := X2.privateBack hx (y := nm_8) hown (mvT hZ (ow hw 53 rfl)) (mvT hZ (ow hw 54 rfl)) (own_selP (mvT (args := #[]) hZ (ow hw 1 rfl)) (mvP hZ (ow hw 55 rfl) (args := #[])) (mvT hZ (ow hw 54 rfl)) (by decide)) (Cond.privateMethod_at (mvP hZ (ow hw 55 rfl) (args := #[]))) (mvT hZ (ow hw 56 rfl)) (by decide) (backOf (W := 0) (rm8 l Z a0 hw [] old .null .null none pq fx fs .null sn h0 n0 Z0 g0_pq ⟨Epd1, Fapd1, Fbpd1, Fcpd1, Fdpd1⟩ L12) hZ (ow hw 56 rfl) (ow hw 2 rfl) (by decide) (by decide)) (g := (mkF m 50 #[.val (.ref pq), .val (.long old), .second, .val .null, .val .null, .val (.ref a5), .val r4, .val (.ref a5), .val (.int (0 : Int32))] [.null, .null, (.long old), (.ref pq)])) rfl (by rw [hml]; rfl) (Steps.refl _) (a := pq) (by rw [e2]; exact q3) q3' (argsL := [(.long old), .null, .null]) (rest := []) (lenOf pd_5 rfl) rfl (by show 2 * 0 + _ ≤ _; exact Nat.le_of_eq rfl) (hb hby d7_50) (fun _ _ => ⟨rfl, e2, (by decide : 0 + 0 ≤ _), (by decide : 0 + 0 ≤ _)⟩)
  dsimp only [Pt.U, Pt.locs, Pt.cells, Pt.slots] at X3 l3 y3 z3 st3 hQ3
  subst l3 y3 z3
  obtain ⟨rfl, N3q, K3, PB3⟩ := hQ3
  have N3 := Fr.app N0 N3q
  obtain ⟨Epd4, Fapd4, Fbpd4, Fcpd4, Fdpd4⟩ := PB3
  obtain ⟨T5, h5, X5, e5, W5, st5⟩ := putF X3 hx hZ hown (host := "") (Or.inl (ow hw 51 rfl)) Via.refl rfl Fcpd4 Epd4 (Or.inl (ow hw 52 rfl)) (ow hw 1 rfl) (ty := (.object "java/lang/Long")) (by decide) rfl rfl (g := (mkF m 70 #[.val (.ref pq), .val (.long old), .second, .val .null, .val .null, .val (.ref a5), .val r4, .val (.ref a5), .val (.int (0 : Int32))] [(.ref a5), (.ref pq)])) rfl rfl (hb hby d7_70)
  have Fw5 := Fcpd4.same W5
  have N5 := Fr.snoc X5 N3 g0_pq
  have c7 := Fdpd4.other W5 (Or.inr (slot_ne (Or.inl (ow hw 15 rfl)) (Or.inl (ow hw 52 rfl)) (by decide) (t := .boolean) (t' := (.object "java/lang/Long")) (by decide) (by decide)))
  have c8 := Epd4.wr W5
  obtain ⟨T6, h6, X6, e6, W6, st6⟩ := putFN X5 hx hZ hown (ow hw 14 rfl) Via.refl e5 c7 c8 (Or.inl (ow hw 15 rfl)) (ow hw 1 rfl) (ty := .boolean) (v' := (.int (0 : Int32))) (by decide) rfl rfl (g := (mkF m 83 #[.val (.ref pq), .val (.long old), .second, .val .null, .val .null, .val (.ref a5), .val r4, .val (.ref a5), .val (.int (0 : Int32))] [(.int (0 : Int32)), (.ref pq)])) rfl rfl (hb hby d7_83)
  have Fw6 := c7.same W6
  have N6 := Fr.snoc X6 N5 g0_pq
  have kp9 : Keep h0 h6 [pq] := ((((Keep.refl h0 [pq]).trans K3 (allS (Or.inl (List.mem_of_getElem? (i := 0) rfl)) all0)).wr W5 (Or.inl (List.mem_of_getElem? (i := 0) rfl))).wr W6 (Or.inl (List.mem_of_getElem? (i := 0) rfl)))
  have c10 := c8.wr W6
  have c11 := Fapd4.other W5 (Or.inr (slot_ne (Or.inl (ow hw 11 rfl)) (Or.inl (ow hw 52 rfl)) (by decide) (t := .long) (t' := (.object "java/lang/Long")) (by decide) (by decide)))
  have c12 := c11.other W6 (Or.inr (slot_ne (Or.inl (ow hw 11 rfl)) (Or.inl (ow hw 15 rfl)) (by decide) (t := .long) (t' := .boolean) (by decide) (by decide)))
  have c13 := Fbpd4.other W5 (Or.inr (slot_ne (Or.inl (ow hw 13 rfl)) (Or.inl (ow hw 52 rfl)) (by decide) (t := .long) (t' := (.object "java/lang/Long")) (by decide) (by decide)))
  have c14 := c13.other W6 (Or.inr (slot_ne (Or.inl (ow hw 13 rfl)) (Or.inl (ow hw 15 rfl)) (by decide) (t := .long) (t' := .boolean) (by decide) (by decide)))
  have c15 := Fw5.other W6 (Or.inr (slot_ne (Or.inl (ow hw 52 rfl)) (Or.inl (ow hw 15 rfl)) (by decide) (t := (.object "java/lang/Long")) (t' := .boolean) (by decide) (by decide)))
  obtain ⟨fsq, hr, hrun, hended, hW, hsame⟩ := X6.leave (v := none) (fun _ => rfl)
  refine ⟨_, _, pre0 _ ?_, hrun, hended, _, _, rfl, ?_, ⟨_, rfl⟩, hW, hsame.mono (by decide) (by decide)⟩
  · show Steps p.tables e below (s₁.setTop (mkF m 0 #[.val (.ref pq), .val (.long old), .second, .val .null, .val .null, .val (.ref a5), .val r4, .unset, .unset] [])) _
    refine XS.aload X0.here hx rfl (hb hby d7_0) rfl rfl ?_
    refine XS.ifnonnullYes X0.here hx rfl (pc0 := 2) (pc' := 10) rfl (hb hby d7_2) rfl (by decide) (by decide) ?_
    refine XS.aload X0.here hx rfl (hb hby d7_10) rfl rfl ?_
    refine XS.astore X0.here hx rfl (hb hby d7_12) rfl rfl (l' := #[.val (.ref pq), .val (.long old), .second, .val .null, .val .null, .val (.ref a5), .val r4, .val (.ref a5), .unset]) rfl ?_
    refine XS.aloadN X0.here hx rfl (hb hby d7_14) rfl rfl ?_
    refine st2 _ ?_
    refine XS.ifnullYes X2.here hx rfl (pc0 := 18) (pc' := 37) rfl (hb hby d7_18) rfl (by decide) (by decide) ?_
    refine XS.iconst X2.here hx rfl (hb hby d7_37) ?_
    refine XS.istore X2.here hx rfl (hb hby d7_38) rfl (l' := #[.val (.ref pq), .val (.long old), .second, .val .null, .val .null, .val (.ref a5), .val r4, .val (.ref a5), .val (.int (0 : Int32))]) rfl ?_
    show Steps p.tables e below (T2.setTop (mkF m 40 #[.val (.ref pq), .val (.long old), .second, .val .null, .val .null, .val (.ref a5), .val r4, .val (.ref a5), .val (.int (0 : Int32))] [])) _
    refine XS.iload X2.here hx rfl (hb hby d7_40) rfl ?_
    refine XS.ifNo X2.here hx rfl (hb hby d7_42) rfl ((if0 _ _).trans (teq (rfl : (0 : Int32) = (0 : Int32))).2) ?_
    refine XS.aloadN X2.here hx rfl (hb hby d7_45) rfl rfl ?_
    refine XS.lloadN X2.here hx rfl (hb hby d7_46) rfl ?_
    refine XS.aloadN X2.here hx rfl (hb hby d7_47) rfl rfl ?_
    refine XS.aload X2.here hx rfl (hb hby d7_48) rfl rfl ?_
    refine st3.trans ?_
    refine XS.aloadN X3.here hx rfl (hb hby d7_53) rfl rfl ?_
    refine XS.aload X3.here hx rfl (hb hby d7_54) rfl rfl ?_
    show Steps p.tables e below (T3.setTop (mkF m 56 #[.val (.ref pq), .val (.long old), .second, .val .null, .val .null, .val (.ref a5), .val r4, .val (.ref a5), .val (.int (0 : Int32))] [(.ref a5), (.ref pq)])) _
    refine XS.ifnonnullYes X3.here hx rfl (pc0 := 56) (pc' := 64) rfl (hb hby d7_56) rfl (by decide) (by decide) ?_
    refine XS.aload X3.here hx rfl (hb hby d7_64) rfl rfl ?_
    refine XS.goto X3.here hx rfl (pc0 := 66) (pc' := 70) rfl (hb hby d7_66) (by decide) (by decide) ?_
    refine st5 _ ?_
    refine XS.aloadN X5.here hx rfl (hb hby d7_73) rfl rfl ?_
    refine XS.aloadN X5.here hx rfl (hb hby d7_74) rfl rfl ?_
    refine XS.ifnullYes X5.here hx rfl (pc0 := 75) (pc' := 82) rfl (hb hby d7_75) rfl (by decide) (by decide) ?_
    refine XS.iconst X5.here hx rfl (hb hby d7_82) ?_
    refine st6 _ ?_
    show Steps p.tables e below (T6.setTop (mkF m 86 #[.val (.ref pq), .val (.long old), .second, .val .null, .val .null, .val (.ref a5), .val r4, .val (.ref a5), .val (.int (0 : Int32))] [])) _
    exact X6.returnOut hx Bd.returns (hb hby d7_86) hr
  · show QRF Z pq (own_raise (fx, fs) (own_cand old none)).1 (own_raise (fx, fs) (own_cand old none)).2 (.ref a5) (.int (0 : Int32)) h0 n0 _ T6.heap _
    rw [e6]
    exact ⟨rfl, N6, kp9, ⟨c10, c12, c14, c15, Fw6⟩⟩
theorem d7_21 : decode prog_27_method_5_code 21 = .ok (.aload_n 0, 1) := by decide +kernel
theorem d7_22 : decode prog_27_method_5_code 22 = .ok (.getfield 24, 3) := by decide +kernel
theorem d7_25 : decode prog_27_method_5_code 25 = .ok (.aload 7, 2) := by decide +kernel
theorem pd_9 : parseMethodDescriptor "(Ljava/lang/Object;)Z" = some ⟨[(.object "java/lang/Object")], some .boolean⟩ := by decide +kernel
theorem d7_27 : decode prog_27_method_5_code 27 = .ok (.invokevirtual 28, 3) := by decide +kernel
theorem d7_30 : decode prog_27_method_5_code 30 = .ok (.ifCond .eq 7, 3) := by decide +kernel
set_option maxRecDepth 65536 in
set_option maxHeartbeats 40000000 in
theorem rm7_R_R0_R (l : Launch) (Z : State) (a0 : Array Value) (hw : ∀ d ∈ tables_1, d.before a0 Z = true) (ws : List Jvm.Cond) (old : Int64) (pq : Addr) (fx : Int64) (fs : Int64) (sn : Value) (r4 : Value) (a3 : Addr) (a4 : Addr) (x : Int64) (sq : Int64) (a5 : Addr) (v5 : Int64) (aj : Addr) (vj : Int64) (h0 : Heap) (n0 : Nat) (Z0 : n0 ≤ h0.size) (h4 : r4.isRef = true) (g0_pq : n0 ≤ pq) (PA : PdAt Z h0 pq fx fs (.ref aj) sn) (L12 : LR2 Z h0 (.ref a3) (.ref a4) (some (x, sq))) (Lin : LR Z h0 (.ref a5) (some v5)) (EJ : Exa Z h0 aj "java/lang/Long") (FJ : Fld Z h0 aj "java/lang/Long" "value" "J" (.long vj)) (hc30 : (if (some v5) = some vj then (1 : Int32) else 0) = (0 : Int32)) :
    MetFree l nm_7 (head1 (Jvm.Cond.code nm_7 prog_27_method_5_code 9 none :: ws) rr_2_0_0_32) (fun aa zU => aa = #[(.ref pq), (.long old), (.ref a3), (.ref a4), (.ref a5), r4] ∧ Z.Warmed39 zU.vm ∧ zU.heap = h0) (fun _ _ _ _ _ => True) (fun _ zU zo zU' => ∃ zv zL, zo = .returned zv ∧ QRF Z pq (own_raise (fx, fs) (own_cand old (some (x, sq)))).1 (own_raise (fx, fs) (own_cand old (some (x, sq)))).2 (.ref a5) (.int (1 : Int32)) h0 n0 zv zU'.heap zL ∧ FrameEnd zU zo zU' zL rr_2_0_0_32.cells rr_2_0_0_32.slots) := by
  refine MetFree.of_bodySF (plainFor_of_name pn_com_example_keyed_work_queue_keyedworkqueue_Pending) hisR ?_
  intro p e s m args below meth c s₁ Bd hml0 hP hK
  obtain ⟨rfl, hZ, hh⟩ := hP
  have hx := Bd.exec
  have hby := Bd.bytes
  have hml : c.maxLocals = 9 := hml0
  have hown : s.vm.findClass "com/example/keyed_work_queue/keyedworkqueue/Pending" = some m.cls := findClass_of_methodNamed Bd.named
  have hnm := (name_of_methodNamed Bd.named Bd.method).1
  have X0 : Stand p l e rr_2_0_0_32 s m #[(.ref pq), (.long old), (.ref a3), (.ref a4), (.ref a5), r4] below meth c s₁ [] 0 0 := Stand.of_body Bd
  have e0 : s₁.heap = h0 := by rw [← hh, Bd.state]; rfl
  have N0 := Fr.nil n0
  have pre0 : ∀ t, Steps p.tables e below (s₁.setTop (mkF m 0 #[.val (.ref pq), .val (.long old), .second, .val (.ref a3), .val (.ref a4), .val (.ref a5), .val r4, .unset, .unset] [])) t → Steps p.tables e below (s₁.setTop (entryFrame m #[(.ref pq), (.long old), (.ref a3), (.ref a4), (.ref a5), r4] 9)) t := fun t k => castTop (ef_7_RJRRRG m pq old a3 a4 a5 r4 h4) k
  obtain ⟨Epd1, Fapd1, Fbpd1, Fcpd1, Fdpd1⟩ := PA
  obtain ⟨T2, X2, e2, st2⟩ := getF X0 hx hZ hown (host := "") (Or.inl (ow hw 51 rfl)) Via.refl e0 Fcpd1 (g := (mkF m 15 #[.val (.ref pq), .val (.long old), .second, .val (.ref a3), .val (.ref a4), .val (.ref a5), .val r4, .val (.ref a5), .unset] [(.ref pq)])) rfl rfl (hb hby d7_15)
  obtain ⟨T3, X3, e3, st3⟩ := getF X2 hx hZ hown (host := "") (Or.inl (ow hw 51 rfl)) Via.refl e2 Fcpd1 (g := (mkF m 22 #[.val (.ref pq), .val (.long old), .second, .val (.ref a3), .val (.ref a4), .val (.ref a5), .val r4, .val (.ref a5), .unset] [(.ref pq)])) rfl rfl (hb hby d7_22)
  obtain ⟨cq4, kq4, q4a, q4b, q4c⟩ := isOf hZ e3 EJ
  obtain ⟨_, _, ⟨T4, L4, k4, n4⟩, -, X4, ⟨Lc4, hQ4, l4, y4, z4⟩, st4⟩ := X3.virtualBack hx (y := nm_14) (z := nm_14) hown (mvT hZ (ow hw 80 rfl)) (mvT hZ (ow hw 81 rfl)) (notFace_of_selects (args := #[]) (mvT hZ (ow hw 83 rfl))) (mvT hZ (ow hw 83 rfl)) (mvT hZ (ow hw 82 rfl)) (by decide) (backOf (W := 0) (rm14 l Z a0 hw [] aj vj (.ref a5) (some v5) h0 n0 Z0 FJ Lin) hZ (ow hw 84 rfl) (ow hw 25 rfl) (by decide) (by decide)) q4a q4c (g := (mkF m 27 #[.val (.ref pq), .val (.long old), .second, .val (.ref a3), .val (.ref a4), .val (.ref a5), .val r4, .val (.ref a5), .unset] [(.ref a5), (.ref aj)])) rfl (by rw [hml]; rfl) (Steps.refl _) (argsL := [(.ref a5)]) (rest := []) (lenOf pd_9 rfl) rfl (by show 2 * 0 + _ ≤ _; exact Nat.le_of_eq rfl) (hb hby d7_27) (fun _ _ => ⟨rfl, e3, (by decide : 0 + 0 ≤ _), (by decide : 0 + 0 ≤ _)⟩)
  dsimp only [Pt.U, Pt.locs, Pt.cells, Pt.slots] at X4 l4 y4 z4 st4 hQ4
  subst l4 y4 z4
  obtain ⟨rfl, N4q, e4⟩ := hQ4
  have N4 := Fr.app N0 N4q
  obtain ⟨cq5, q5, q5'⟩ := Epd1.cell
  obtain ⟨_, _, ⟨T5, L5, k5, n5⟩, -, X5, ⟨Lc5, hQ5, l5, y5, z5⟩, st5⟩ := X4.privateBack hx (y := nm_8) hown (mvT hZ (ow hw 53 rfl)) (mvT hZ (ow hw 54 rfl)) (own_selP (mvT (args := #[]) hZ (ow hw 1 rfl)) (mvP hZ (ow hw 55 rfl) (args := #[])) (mvT hZ (ow hw 54 rfl)) (by decide)) (Cond.privateMethod_at (mvP hZ (ow hw 55 rfl) (args := #[]))) (mvT hZ (ow hw 56 rfl)) (by decide) (backOf (W := 0) (rm8 l Z a0 hw [] old (.ref a3) (.ref a4) (some (x, sq)) pq fx fs (.ref aj) sn h0 n0 Z0 g0_pq ⟨Epd1, Fapd1, Fbpd1, Fcpd1, Fdpd1⟩ L12) hZ (ow hw 56 rfl) (ow hw 2 rfl) (by decide) (by decide)) (g := (mkF m 50 #[.val (.ref pq), .val (.long old), .second, .val (.ref a3), .val (.ref a4), .val (.ref a5), .val r4, .val (.ref a5), .val (.int (0 : Int32))] [(.ref a4), (.ref a3), (.long old), (.ref pq)])) rfl (by rw [hml]; rfl) (Steps.refl _) (a := pq) (by rw [e4]; exact q5) q5' (argsL := [(.long old), (.ref a3), (.ref a4)]) (rest := []) (lenOf pd_5 rfl) rfl (by show 2 * 0 + _ ≤ _; exact Nat.le_of_eq rfl) (hb hby d7_50) (fun _ _ => ⟨rfl, e4, (by decide : 0 + 0 ≤ _), (by decide : 0 + 0 ≤ _)⟩)
  dsimp only [Pt.U, Pt.locs, Pt.cells, Pt.slots] at X5 l5 y5 z5 st5 hQ5
  subst l5 y5 z5
  obtain ⟨rfl, N5q, K5, PB5⟩ := hQ5
  have N5 := Fr.app N4 N5q
  obtain ⟨Epd6, Fapd6, Fbpd6, Fcpd6, Fdpd6⟩ := PB5
  obtain ⟨T7, h7, X7, e7, W7, st7⟩ := putF X5 hx hZ hown (host := "") (Or.inl (ow hw 51 rfl)) Via.refl rfl Fcpd6 Epd6 (Or.inl (ow hw 52 rfl)) (ow hw 1 rfl) (ty := (.object "java/lang/Long")) (by decide) rfl rfl (g := (mkF m 70 #[.val (.ref pq), .val (.long old), .second, .val (.ref a3), .val (.ref a4), .val (.ref a5), .val r4, .val (.ref a5), .val (.int (0 : Int32))] [(.ref a5), (.ref pq)])) rfl rfl (hb hby d7_70)
  have Fw7 := Fcpd6.same W7
  have N7 := Fr.snoc X7 N5 g0_pq
  have c9 := Fdpd6.other W7 (Or.inr (slot_ne (Or.inl (ow hw 15 rfl)) (Or.inl (ow hw 52 rfl)) (by decide) (t := .boolean) (t' := (.object "java/lang/Long")) (by decide) (by decide)))
  have c10 := Epd6.wr W7
  obtain ⟨T8, h8, X8, e8, W8, st8⟩ := putFN X7 hx hZ hown (ow hw 14 rfl) Via.refl e7 c9 c10 (Or.inl (ow hw 15 rfl)) (ow hw 1 rfl) (ty := .boolean) (v' := (.int (1 : Int32))) (by decide) rfl rfl (g := (mkF m 83 #[.val (.ref pq), .val (.long old), .second, .val (.ref a3), .val (.ref a4), .val (.ref a5), .val r4, .val (.ref a5), .val (.int (0 : Int32))] [(.int (1 : Int32)), (.ref pq)])) rfl rfl (hb hby d7_83)
  have Fw8 := c9.same W8
  have N8 := Fr.snoc X8 N7 g0_pq
  have kp11 : Keep h0 h8 [pq] := ((((Keep.refl h0 [pq]).trans K5 (allS (Or.inl (List.mem_of_getElem? (i := 0) rfl)) all0)).wr W7 (Or.inl (List.mem_of_getElem? (i := 0) rfl))).wr W8 (Or.inl (List.mem_of_getElem? (i := 0) rfl)))
  have c12 := c10.wr W8
  have c13 := Fapd6.other W7 (Or.inr (slot_ne (Or.inl (ow hw 11 rfl)) (Or.inl (ow hw 52 rfl)) (by decide) (t := .long) (t' := (.object "java/lang/Long")) (by decide) (by decide)))
  have c14 := c13.other W8 (Or.inr (slot_ne (Or.inl (ow hw 11 rfl)) (Or.inl (ow hw 15 rfl)) (by decide) (t := .long) (t' := .boolean) (by decide) (by decide)))
  have c15 := Fbpd6.other W7 (Or.inr (slot_ne (Or.inl (ow hw 13 rfl)) (Or.inl (ow hw 52 rfl)) (by decide) (t := .long) (t' := (.object "java/lang/Long")) (by decide) (by decide)))
  have c16 := c15.other W8 (Or.inr (slot_ne (Or.inl (ow hw 13 rfl)) (Or.inl (ow hw 15 rfl)) (by decide) (t := .long) (t' := .boolean) (by decide) (by decide)))
  have c17 := Fw7.other W8 (Or.inr (slot_ne (Or.inl (ow hw 52 rfl)) (Or.inl (ow hw 15 rfl)) (by decide) (t := (.object "java/lang/Long")) (t' := .boolean) (by decide) (by decide)))
  obtain ⟨fsq, hr, hrun, hended, hW, hsame⟩ := X8.leave (v := none) (fun _ => rfl)
  refine ⟨_, _, pre0 _ ?_, hrun, hended, _, _, rfl, ?_, ⟨_, rfl⟩, hW, hsame.mono (by decide) (by decide)⟩
  · show Steps p.tables e below (s₁.setTop (mkF m 0 #[.val (.ref pq), .val (.long old), .second, .val (.ref a3), .val (.ref a4), .val (.ref a5), .val r4, .unset, .unset] [])) _
    refine XS.aload X0.here hx rfl (hb hby d7_0) rfl rfl ?_
    refine XS.ifnonnullYes X0.here hx rfl (pc0 := 2) (pc' := 10) rfl (hb hby d7_2) rfl (by decide) (by decide) ?_
    refine XS.aload X0.here hx rfl (hb hby d7_10) rfl rfl ?_
    refine XS.astore X0.here hx rfl (hb hby d7_12) rfl rfl (l' := #[.val (.ref pq), .val (.long old), .second, .val (.ref a3), .val (.ref a4), .val (.ref a5), .val r4, .val (.ref a5), .unset]) rfl ?_
    refine XS.aloadN X0.here hx rfl (hb hby d7_14) rfl rfl ?_
    refine st2 _ ?_
    refine XS.ifnullNo X2.here hx rfl (hb hby d7_18) rfl ?_
    refine XS.aloadN X2.here hx rfl (hb hby d7_21) rfl rfl ?_
    refine st3 _ ?_
    show Steps p.tables e below (T3.setTop (mkF m 25 #[.val (.ref pq), .val (.long old), .second, .val (.ref a3), .val (.ref a4), .val (.ref a5), .val r4, .val (.ref a5), .unset] [(.ref aj)])) _
    refine XS.aload X3.here hx rfl (hb hby d7_25) rfl rfl ?_
    refine st4.trans ?_
    refine XS.ifYes X4.here hx rfl (pc0 := 30) (pc' := 37) rfl (hb hby d7_30) rfl ((if0 _ _).trans (teq hc30).1) (by decide) (by decide) ?_
    refine XS.iconst X4.here hx rfl (hb hby d7_37) ?_
    refine XS.istore X4.here hx rfl (hb hby d7_38) rfl (l' := #[.val (.ref pq), .val (.long old), .second, .val (.ref a3), .val (.ref a4), .val (.ref a5), .val r4, .val (.ref a5), .val (.int (0 : Int32))]) rfl ?_
    refine XS.iload X4.here hx rfl (hb hby d7_40) rfl ?_
    refine XS.ifNo X4.here hx rfl (hb hby d7_42) rfl ((if0 _ _).trans (teq (rfl : (0 : Int32) = (0 : Int32))).2) ?_
    refine XS.aloadN X4.here hx rfl (hb hby d7_45) rfl rfl ?_
    refine XS.lloadN X4.here hx rfl (hb hby d7_46) rfl ?_
    show Steps p.tables e below (T4.setTop (mkF m 47 #[.val (.ref pq), .val (.long old), .second, .val (.ref a3), .val (.ref a4), .val (.ref a5), .val r4, .val (.ref a5), .val (.int (0 : Int32))] [(.long old), (.ref pq)])) _
    refine XS.aloadN X4.here hx rfl (hb hby d7_47) rfl rfl ?_
    refine XS.aload X4.here hx rfl (hb hby d7_48) rfl rfl ?_
    refine st5.trans ?_
    refine XS.aloadN X5.here hx rfl (hb hby d7_53) rfl rfl ?_
    refine XS.aload X5.here hx rfl (hb hby d7_54) rfl rfl ?_
    refine XS.ifnonnullYes X5.here hx rfl (pc0 := 56) (pc' := 64) rfl (hb hby d7_56) rfl (by decide) (by decide) ?_
    refine XS.aload X5.here hx rfl (hb hby d7_64) rfl rfl ?_
    refine XS.goto X5.here hx rfl (pc0 := 66) (pc' := 70) rfl (hb hby d7_66) (by decide) (by decide) ?_
    refine st7 _ ?_
    show Steps p.tables e below (T7.setTop (mkF m 73 #[.val (.ref pq), .val (.long old), .second, .val (.ref a3), .val (.ref a4), .val (.ref a5), .val r4, .val (.ref a5), .val (.int (0 : Int32))] [])) _
    refine XS.aloadN X7.here hx rfl (hb hby d7_73) rfl rfl ?_
    refine XS.aloadN X7.here hx rfl (hb hby d7_74) rfl rfl ?_
    refine XS.ifnullNo X7.here hx rfl (hb hby d7_75) rfl ?_
    refine XS.iconst X7.here hx rfl (hb hby d7_78) ?_
    refine XS.goto X7.here hx rfl (pc0 := 79) (pc' := 83) rfl (hb hby d7_79) (by decide) (by decide) ?_
    refine st8 _ ?_
    show Steps p.tables e below (T8.setTop (mkF m 86 #[.val (.ref pq), .val (.long old), .second, .val (.ref a3), .val (.ref a4), .val (.ref a5), .val r4, .val (.ref a5), .val (.int (0 : Int32))] [])) _
    exact X8.returnOut hx Bd.returns (hb hby d7_86) hr
  · show QRF Z pq (own_raise (fx, fs) (own_cand old (some (x, sq)))).1 (own_raise (fx, fs) (own_cand old (some (x, sq)))).2 (.ref a5) (.int (1 : Int32)) h0 n0 _ T8.heap _
    rw [e8]
    exact ⟨rfl, N8, kp11, ⟨c12, c14, c16, c17, Fw8⟩⟩
set_option maxRecDepth 65536 in
set_option maxHeartbeats 40000000 in
theorem rm7_R_R0_N (l : Launch) (Z : State) (a0 : Array Value) (hw : ∀ d ∈ tables_1, d.before a0 Z = true) (ws : List Jvm.Cond) (old : Int64) (pq : Addr) (fx : Int64) (fs : Int64) (sn : Value) (r4 : Value) (a5 : Addr) (v5 : Int64) (aj : Addr) (vj : Int64) (h0 : Heap) (n0 : Nat) (Z0 : n0 ≤ h0.size) (h4 : r4.isRef = true) (g0_pq : n0 ≤ pq) (PA : PdAt Z h0 pq fx fs (.ref aj) sn) (L12 : LR2 Z h0 .null .null none) (Lin : LR Z h0 (.ref a5) (some v5)) (EJ : Exa Z h0 aj "java/lang/Long") (FJ : Fld Z h0 aj "java/lang/Long" "value" "J" (.long vj)) (hc30 : (if (some v5) = some vj then (1 : Int32) else 0) = (0 : Int32)) :
    MetFree l nm_7 (head1 (Jvm.Cond.code nm_7 prog_27_method_5_code 9 none :: ws) rr_2_0_0_32) (fun aa zU => aa = #[(.ref pq), (.long old), .null, .null, (.ref a5), r4] ∧ Z.Warmed39 zU.vm ∧ zU.heap = h0) (fun _ _ _ _ _ => True) (fun _ zU zo zU' => ∃ zv zL, zo = .returned zv ∧ QRF Z pq (own_raise (fx, fs) (own_cand old none)).1 (own_raise (fx, fs) (own_cand old none)).2 (.ref a5) (.int (0 : Int32)) h0 n0 zv zU'.heap zL ∧ FrameEnd zU zo zU' zL rr_2_0_0_32.cells rr_2_0_0_32.slots) := by
  refine MetFree.of_bodySF (plainFor_of_name pn_com_example_keyed_work_queue_keyedworkqueue_Pending) hisR ?_
  intro p e s m args below meth c s₁ Bd hml0 hP hK
  obtain ⟨rfl, hZ, hh⟩ := hP
  have hx := Bd.exec
  have hby := Bd.bytes
  have hml : c.maxLocals = 9 := hml0
  have hown : s.vm.findClass "com/example/keyed_work_queue/keyedworkqueue/Pending" = some m.cls := findClass_of_methodNamed Bd.named
  have hnm := (name_of_methodNamed Bd.named Bd.method).1
  have X0 : Stand p l e rr_2_0_0_32 s m #[(.ref pq), (.long old), .null, .null, (.ref a5), r4] below meth c s₁ [] 0 0 := Stand.of_body Bd
  have e0 : s₁.heap = h0 := by rw [← hh, Bd.state]; rfl
  have N0 := Fr.nil n0
  have pre0 : ∀ t, Steps p.tables e below (s₁.setTop (mkF m 0 #[.val (.ref pq), .val (.long old), .second, .val .null, .val .null, .val (.ref a5), .val r4, .unset, .unset] [])) t → Steps p.tables e below (s₁.setTop (entryFrame m #[(.ref pq), (.long old), .null, .null, (.ref a5), r4] 9)) t := fun t k => castTop (ef_7_RJNNRG m pq old a5 r4 h4) k
  obtain ⟨Epd1, Fapd1, Fbpd1, Fcpd1, Fdpd1⟩ := PA
  obtain ⟨T2, X2, e2, st2⟩ := getF X0 hx hZ hown (host := "") (Or.inl (ow hw 51 rfl)) Via.refl e0 Fcpd1 (g := (mkF m 15 #[.val (.ref pq), .val (.long old), .second, .val .null, .val .null, .val (.ref a5), .val r4, .val (.ref a5), .unset] [(.ref pq)])) rfl rfl (hb hby d7_15)
  obtain ⟨T3, X3, e3, st3⟩ := getF X2 hx hZ hown (host := "") (Or.inl (ow hw 51 rfl)) Via.refl e2 Fcpd1 (g := (mkF m 22 #[.val (.ref pq), .val (.long old), .second, .val .null, .val .null, .val (.ref a5), .val r4, .val (.ref a5), .unset] [(.ref pq)])) rfl rfl (hb hby d7_22)
  obtain ⟨cq4, kq4, q4a, q4b, q4c⟩ := isOf hZ e3 EJ
  obtain ⟨_, _, ⟨T4, L4, k4, n4⟩, -, X4, ⟨Lc4, hQ4, l4, y4, z4⟩, st4⟩ := X3.virtualBack hx (y := nm_14) (z := nm_14) hown (mvT hZ (ow hw 80 rfl)) (mvT hZ (ow hw 81 rfl)) (notFace_of_selects (args := #[]) (mvT hZ (ow hw 83 rfl))) (mvT hZ (ow hw 83 rfl)) (mvT hZ (ow hw 82 rfl)) (by decide) (backOf (W := 0) (rm14 l Z a0 hw [] aj vj (.ref a5) (some v5) h0 n0 Z0 FJ Lin) hZ (ow hw 84 rfl) (ow hw 25 rfl) (by decide) (by decide)) q4a q4c (g := (mkF m 27 #[.val (.ref pq), .val (.long old), .second, .val .null, .val .null, .val (.ref a5), .val r4, .val (.ref a5), .unset] [(.ref a5), (.ref aj)])) rfl (by rw [hml]; rfl) (Steps.refl _) (argsL := [(.ref a5)]) (rest := []) (lenOf pd_9 rfl) rfl (by show 2 * 0 + _ ≤ _; exact Nat.le_of_eq rfl) (hb hby d7_27) (fun _ _ => ⟨rfl, e3, (by decide : 0 + 0 ≤ _), (by decide : 0 + 0 ≤ _)⟩)
  dsimp only [Pt.U, Pt.locs, Pt.cells, Pt.slots] at X4 l4 y4 z4 st4 hQ4
  subst l4 y4 z4
  obtain ⟨rfl, N4q, e4⟩ := hQ4
  have N4 := Fr.app N0 N4q
  obtain ⟨cq5, q5, q5'⟩ := Epd1.cell
  obtain ⟨_, _, ⟨T5, L5, k5, n5⟩, -, X5, ⟨Lc5, hQ5, l5, y5, z5⟩, st5⟩ := X4.privateBack hx (y := nm_8) hown (mvT hZ (ow hw 53 rfl)) (mvT hZ (ow hw 54 rfl)) (own_selP (mvT (args := #[]) hZ (ow hw 1 rfl)) (mvP hZ (ow hw 55 rfl) (args := #[])) (mvT hZ (ow hw 54 rfl)) (by decide)) (Cond.privateMethod_at (mvP hZ (ow hw 55 rfl) (args := #[]))) (mvT hZ (ow hw 56 rfl)) (by decide) (backOf (W := 0) (rm8 l Z a0 hw [] old .null .null none pq fx fs (.ref aj) sn h0 n0 Z0 g0_pq ⟨Epd1, Fapd1, Fbpd1, Fcpd1, Fdpd1⟩ L12) hZ (ow hw 56 rfl) (ow hw 2 rfl) (by decide) (by decide)) (g := (mkF m 50 #[.val (.ref pq), .val (.long old), .second, .val .null, .val .null, .val (.ref a5), .val r4, .val (.ref a5), .val (.int (0 : Int32))] [.null, .null, (.long old), (.ref pq)])) rfl (by rw [hml]; rfl) (Steps.refl _) (a := pq) (by rw [e4]; exact q5) q5' (argsL := [(.long old), .null, .null]) (rest := []) (lenOf pd_5 rfl) rfl (by show 2 * 0 + _ ≤ _; exact Nat.le_of_eq rfl) (hb hby d7_50) (fun _ _ => ⟨rfl, e4, (by decide : 0 + 0 ≤ _), (by decide : 0 + 0 ≤ _)⟩)
  dsimp only [Pt.U, Pt.locs, Pt.cells, Pt.slots] at X5 l5 y5 z5 st5 hQ5
  subst l5 y5 z5
  obtain ⟨rfl, N5q, K5, PB5⟩ := hQ5
  have N5 := Fr.app N4 N5q
  obtain ⟨Epd6, Fapd6, Fbpd6, Fcpd6, Fdpd6⟩ := PB5
  obtain ⟨T7, h7, X7, e7, W7, st7⟩ := putF X5 hx hZ hown (host := "") (Or.inl (ow hw 51 rfl)) Via.refl rfl Fcpd6 Epd6 (Or.inl (ow hw 52 rfl)) (ow hw 1 rfl) (ty := (.object "java/lang/Long")) (by decide) rfl rfl (g := (mkF m 70 #[.val (.ref pq), .val (.long old), .second, .val .null, .val .null, .val (.ref a5), .val r4, .val (.ref a5), .val (.int (0 : Int32))] [(.ref a5), (.ref pq)])) rfl rfl (hb hby d7_70)
  have Fw7 := Fcpd6.same W7
  have N7 := Fr.snoc X7 N5 g0_pq
  have c9 := Fdpd6.other W7 (Or.inr (slot_ne (Or.inl (ow hw 15 rfl)) (Or.inl (ow hw 52 rfl)) (by decide) (t := .boolean) (t' := (.object "java/lang/Long")) (by decide) (by decide)))
  have c10 := Epd6.wr W7
  obtain ⟨T8, h8, X8, e8, W8, st8⟩ := putFN X7 hx hZ hown (ow hw 14 rfl) Via.refl e7 c9 c10 (Or.inl (ow hw 15 rfl)) (ow hw 1 rfl) (ty := .boolean) (v' := (.int (0 : Int32))) (by decide) rfl rfl (g := (mkF m 83 #[.val (.ref pq), .val (.long old), .second, .val .null, .val .null, .val (.ref a5), .val r4, .val (.ref a5), .val (.int (0 : Int32))] [(.int (0 : Int32)), (.ref pq)])) rfl rfl (hb hby d7_83)
  have Fw8 := c9.same W8
  have N8 := Fr.snoc X8 N7 g0_pq
  have kp11 : Keep h0 h8 [pq] := ((((Keep.refl h0 [pq]).trans K5 (allS (Or.inl (List.mem_of_getElem? (i := 0) rfl)) all0)).wr W7 (Or.inl (List.mem_of_getElem? (i := 0) rfl))).wr W8 (Or.inl (List.mem_of_getElem? (i := 0) rfl)))
  have c12 := c10.wr W8
  have c13 := Fapd6.other W7 (Or.inr (slot_ne (Or.inl (ow hw 11 rfl)) (Or.inl (ow hw 52 rfl)) (by decide) (t := .long) (t' := (.object "java/lang/Long")) (by decide) (by decide)))
  have c14 := c13.other W8 (Or.inr (slot_ne (Or.inl (ow hw 11 rfl)) (Or.inl (ow hw 15 rfl)) (by decide) (t := .long) (t' := .boolean) (by decide) (by decide)))
  have c15 := Fbpd6.other W7 (Or.inr (slot_ne (Or.inl (ow hw 13 rfl)) (Or.inl (ow hw 52 rfl)) (by decide) (t := .long) (t' := (.object "java/lang/Long")) (by decide) (by decide)))
  have c16 := c15.other W8 (Or.inr (slot_ne (Or.inl (ow hw 13 rfl)) (Or.inl (ow hw 15 rfl)) (by decide) (t := .long) (t' := .boolean) (by decide) (by decide)))
  have c17 := Fw7.other W8 (Or.inr (slot_ne (Or.inl (ow hw 52 rfl)) (Or.inl (ow hw 15 rfl)) (by decide) (t := (.object "java/lang/Long")) (t' := .boolean) (by decide) (by decide)))
  obtain ⟨fsq, hr, hrun, hended, hW, hsame⟩ := X8.leave (v := none) (fun _ => rfl)
  refine ⟨_, _, pre0 _ ?_, hrun, hended, _, _, rfl, ?_, ⟨_, rfl⟩, hW, hsame.mono (by decide) (by decide)⟩
  · show Steps p.tables e below (s₁.setTop (mkF m 0 #[.val (.ref pq), .val (.long old), .second, .val .null, .val .null, .val (.ref a5), .val r4, .unset, .unset] [])) _
    refine XS.aload X0.here hx rfl (hb hby d7_0) rfl rfl ?_
    refine XS.ifnonnullYes X0.here hx rfl (pc0 := 2) (pc' := 10) rfl (hb hby d7_2) rfl (by decide) (by decide) ?_
    refine XS.aload X0.here hx rfl (hb hby d7_10) rfl rfl ?_
    refine XS.astore X0.here hx rfl (hb hby d7_12) rfl rfl (l' := #[.val (.ref pq), .val (.long old), .second, .val .null, .val .null, .val (.ref a5), .val r4, .val (.ref a5), .unset]) rfl ?_
    refine XS.aloadN X0.here hx rfl (hb hby d7_14) rfl rfl ?_
    refine st2 _ ?_
    refine XS.ifnullNo X2.here hx rfl (hb hby d7_18) rfl ?_
    refine XS.aloadN X2.here hx rfl (hb hby d7_21) rfl rfl ?_
    refine st3 _ ?_
    show Steps p.tables e below (T3.setTop (mkF m 25 #[.val (.ref pq), .val (.long old), .second, .val .null, .val .null, .val (.ref a5), .val r4, .val (.ref a5), .unset] [(.ref aj)])) _
    refine XS.aload X3.here hx rfl (hb hby d7_25) rfl rfl ?_
    refine st4.trans ?_
    refine XS.ifYes X4.here hx rfl (pc0 := 30) (pc' := 37) rfl (hb hby d7_30) rfl ((if0 _ _).trans (teq hc30).1) (by decide) (by decide) ?_
    refine XS.iconst X4.here hx rfl (hb hby d7_37) ?_
    refine XS.istore X4.here hx rfl (hb hby d7_38) rfl (l' := #[.val (.ref pq), .val (.long old), .second, .val .null, .val .null, .val (.ref a5), .val r4, .val (.ref a5), .val (.int (0 : Int32))]) rfl ?_
    refine XS.iload X4.here hx rfl (hb hby d7_40) rfl ?_
    refine XS.ifNo X4.here hx rfl (hb hby d7_42) rfl ((if0 _ _).trans (teq (rfl : (0 : Int32) = (0 : Int32))).2) ?_
    refine XS.aloadN X4.here hx rfl (hb hby d7_45) rfl rfl ?_
    refine XS.lloadN X4.here hx rfl (hb hby d7_46) rfl ?_
    show Steps p.tables e below (T4.setTop (mkF m 47 #[.val (.ref pq), .val (.long old), .second, .val .null, .val .null, .val (.ref a5), .val r4, .val (.ref a5), .val (.int (0 : Int32))] [(.long old), (.ref pq)])) _
    refine XS.aloadN X4.here hx rfl (hb hby d7_47) rfl rfl ?_
    refine XS.aload X4.here hx rfl (hb hby d7_48) rfl rfl ?_
    refine st5.trans ?_
    refine XS.aloadN X5.here hx rfl (hb hby d7_53) rfl rfl ?_
    refine XS.aload X5.here hx rfl (hb hby d7_54) rfl rfl ?_
    refine XS.ifnonnullYes X5.here hx rfl (pc0 := 56) (pc' := 64) rfl (hb hby d7_56) rfl (by decide) (by decide) ?_
    refine XS.aload X5.here hx rfl (hb hby d7_64) rfl rfl ?_
    refine XS.goto X5.here hx rfl (pc0 := 66) (pc' := 70) rfl (hb hby d7_66) (by decide) (by decide) ?_
    refine st7 _ ?_
    show Steps p.tables e below (T7.setTop (mkF m 73 #[.val (.ref pq), .val (.long old), .second, .val .null, .val .null, .val (.ref a5), .val r4, .val (.ref a5), .val (.int (0 : Int32))] [])) _
    refine XS.aloadN X7.here hx rfl (hb hby d7_73) rfl rfl ?_
    refine XS.aloadN X7.here hx rfl (hb hby d7_74) rfl rfl ?_
    refine XS.ifnullYes X7.here hx rfl (pc0 := 75) (pc' := 82) rfl (hb hby d7_75) rfl (by decide) (by decide) ?_
    refine XS.iconst X7.here hx rfl (hb hby d7_82) ?_
    refine st8 _ ?_
    show Steps p.tables e below (T8.setTop (mkF m 86 #[.val (.ref pq), .val (.long old), .second, .val .null, .val .null, .val (.ref a5), .val r4, .val (.ref a5), .val (.int (0 : Int32))] [])) _
    exact X8.returnOut hx Bd.returns (hb hby d7_86) hr
  · show QRF Z pq (own_raise (fx, fs) (own_cand old none)).1 (own_raise (fx, fs) (own_cand old none)).2 (.ref a5) (.int (0 : Int32)) h0 n0 _ T8.heap _
    rw [e8]
    exact ⟨rfl, N8, kp11, ⟨c12, c14, c16, c17, Fw8⟩⟩
theorem d7_33 : decode prog_27_method_5_code 33 = .ok (.iconst 1, 1) := by decide +kernel
theorem d7_34 : decode prog_27_method_5_code 34 = .ok (.goto 4, 3) := by decide +kernel
set_option maxRecDepth 65536 in
set_option maxHeartbeats 40000000 in
theorem rm7_R_R1_R (l : Launch) (Z : State) (a0 : Array Value) (hw : ∀ d ∈ tables_1, d.before a0 Z = true) (ws : List Jvm.Cond) (old : Int64) (pq : Addr) (fx : Int64) (fs : Int64) (sn : Value) (r4 : Value) (a3 : Addr) (a4 : Addr) (x : Int64) (sq : Int64) (a5 : Addr) (v5 : Int64) (aj : Addr) (vj : Int64) (h0 : Heap) (n0 : Nat) (Z0 : n0 ≤ h0.size) (h4 : r4.isRef = true) (g0_pq : n0 ≤ pq) (PA : PdAt Z h0 pq fx fs (.ref aj) sn) (L12 : LR2 Z h0 (.ref a3) (.ref a4) (some (x, sq))) (Lin : LR Z h0 (.ref a5) (some v5)) (EJ : Exa Z h0 aj "java/lang/Long") (FJ : Fld Z h0 aj "java/lang/Long" "value" "J" (.long vj)) (hc30 : ¬ ((if (some v5) = some vj then (1 : Int32) else 0) = (0 : Int32))) :
    MetFree l nm_7 (head1 (Jvm.Cond.code nm_7 prog_27_method_5_code 9 none :: ws) rr_2_0_0_32) (fun aa zU => aa = #[(.ref pq), (.long old), (.ref a3), (.ref a4), (.ref a5), r4] ∧ Z.Warmed39 zU.vm ∧ zU.heap = h0) (fun _ _ _ _ _ => True) (fun _ zU zo zU' => ∃ zv zL, zo = .returned zv ∧ QRF Z pq fx fs (.ref a5) (.int (1 : Int32)) h0 n0 zv zU'.heap zL ∧ FrameEnd zU zo zU' zL rr_2_0_0_32.cells rr_2_0_0_32.slots) := by
  refine MetFree.of_bodySF (plainFor_of_name pn_com_example_keyed_work_queue_keyedworkqueue_Pending) hisR ?_
  intro p e s m args below meth c s₁ Bd hml0 hP hK
  obtain ⟨rfl, hZ, hh⟩ := hP
  have hx := Bd.exec
  have hby := Bd.bytes
  have hml : c.maxLocals = 9 := hml0
  have hown : s.vm.findClass "com/example/keyed_work_queue/keyedworkqueue/Pending" = some m.cls := findClass_of_methodNamed Bd.named
  have hnm := (name_of_methodNamed Bd.named Bd.method).1
  have X0 : Stand p l e rr_2_0_0_32 s m #[(.ref pq), (.long old), (.ref a3), (.ref a4), (.ref a5), r4] below meth c s₁ [] 0 0 := Stand.of_body Bd
  have e0 : s₁.heap = h0 := by rw [← hh, Bd.state]; rfl
  have N0 := Fr.nil n0
  have pre0 : ∀ t, Steps p.tables e below (s₁.setTop (mkF m 0 #[.val (.ref pq), .val (.long old), .second, .val (.ref a3), .val (.ref a4), .val (.ref a5), .val r4, .unset, .unset] [])) t → Steps p.tables e below (s₁.setTop (entryFrame m #[(.ref pq), (.long old), (.ref a3), (.ref a4), (.ref a5), r4] 9)) t := fun t k => castTop (ef_7_RJRRRG m pq old a3 a4 a5 r4 h4) k
  obtain ⟨Epd1, Fapd1, Fbpd1, Fcpd1, Fdpd1⟩ := PA
  obtain ⟨T2, X2, e2, st2⟩ := getF X0 hx hZ hown (host := "") (Or.inl (ow hw 51 rfl)) Via.refl e0 Fcpd1 (g := (mkF m 15 #[.val (.ref pq), .val (.long old), .second, .val (.ref a3), .val (.ref a4), .val (.ref a5), .val r4, .val (.ref a5), .unset] [(.ref pq)])) rfl rfl (hb hby d7_15)
  obtain ⟨T3, X3, e3, st3⟩ := getF X2 hx hZ hown (host := "") (Or.inl (ow hw 51 rfl)) Via.refl e2 Fcpd1 (g := (mkF m 22 #[.val (.ref pq), .val (.long old), .second, .val (.ref a3), .val (.ref a4), .val (.ref a5), .val r4, .val (.ref a5), .unset] [(.ref pq)])) rfl rfl (hb hby d7_22)
  obtain ⟨cq4, kq4, q4a, q4b, q4c⟩ := isOf hZ e3 EJ
  obtain ⟨_, _, ⟨T4, L4, k4, n4⟩, -, X4, ⟨Lc4, hQ4, l4, y4, z4⟩, st4⟩ := X3.virtualBack hx (y := nm_14) (z := nm_14) hown (mvT hZ (ow hw 80 rfl)) (mvT hZ (ow hw 81 rfl)) (notFace_of_selects (args := #[]) (mvT hZ (ow hw 83 rfl))) (mvT hZ (ow hw 83 rfl)) (mvT hZ (ow hw 82 rfl)) (by decide) (backOf (W := 0) (rm14 l Z a0 hw [] aj vj (.ref a5) (some v5) h0 n0 Z0 FJ Lin) hZ (ow hw 84 rfl) (ow hw 25 rfl) (by decide) (by decide)) q4a q4c (g := (mkF m 27 #[.val (.ref pq), .val (.long old), .second, .val (.ref a3), .val (.ref a4), .val (.ref a5), .val r4, .val (.ref a5), .unset] [(.ref a5), (.ref aj)])) rfl (by rw [hml]; rfl) (Steps.refl _) (argsL := [(.ref a5)]) (rest := []) (lenOf pd_9 rfl) rfl (by show 2 * 0 + _ ≤ _; exact Nat.le_of_eq rfl) (hb hby d7_27) (fun _ _ => ⟨rfl, e3, (by decide : 0 + 0 ≤ _), (by decide : 0 + 0 ≤ _)⟩)
  dsimp only [Pt.U, Pt.locs, Pt.cells, Pt.slots] at X4 l4 y4 z4 st4 hQ4
  subst l4 y4 z4
  obtain ⟨rfl, N4q, e4⟩ := hQ4
  have N4 := Fr.app N0 N4q
  obtain ⟨T5, h5, X5, e5, W5, st5⟩ := putF X4 hx hZ hown (host := "") (Or.inl (ow hw 51 rfl)) Via.refl e4 Fcpd1 Epd1 (Or.inl (ow hw 52 rfl)) (ow hw 1 rfl) (ty := (.object "java/lang/Long")) (by decide) rfl rfl (g := (mkF m 70 #[.val (.ref pq), .val (.long old), .second, .val (.ref a3), .val (.ref a4), .val (.ref a5), .val r4, .val (.ref a5), .val (.int (1 : Int32))] [(.ref a5), (.ref pq)])) rfl rfl (hb hby d7_70)
  have Fw5 := Fcpd1.same W5
  have N5 := Fr.snoc X5 N4 g0_pq
  have c7 := Fdpd1.other W5 (Or.inr (slot_ne (Or.inl (ow hw 15 rfl)) (Or.inl (ow hw 52 rfl)) (by decide) (t := .boolean) (t' := (.object "java/lang/Long")) (by decide) (by decide)))
  have c8 := Epd1.wr W5
  obtain ⟨T6, h6, X6, e6, W6, st6⟩ := putFN X5 hx hZ hown (ow hw 14 rfl) Via.refl e5 c7 c8 (Or.inl (ow hw 15 rfl)) (ow hw 1 rfl) (ty := .boolean) (v' := (.int (1 : Int32))) (by decide) rfl rfl (g := (mkF m 83 #[.val (.ref pq), .val (.long old), .second, .val (.ref a3), .val (.ref a4), .val (.ref a5), .val r4, .val (.ref a5), .val (.int (1 : Int32))] [(.int (1 : Int32)), (.ref pq)])) rfl rfl (hb hby d7_83)
  have Fw6 := c7.same W6
  have N6 := Fr.snoc X6 N5 g0_pq
  have kp9 : Keep h0 h6 [pq] := (((Keep.refl h0 [pq]).wr W5 (Or.inl (List.mem_of_getElem? (i := 0) rfl))).wr W6 (Or.inl (List.mem_of_getElem? (i := 0) rfl)))
  have c10 := c8.wr W6
  have c11 := Fapd1.other W5 (Or.inr (slot_ne (Or.inl (ow hw 11 rfl)) (Or.inl (ow hw 52 rfl)) (by decide) (t := .long) (t' := (.object "java/lang/Long")) (by decide) (by decide)))
  have c12 := c11.other W6 (Or.inr (slot_ne (Or.inl (ow hw 11 rfl)) (Or.inl (ow hw 15 rfl)) (by decide) (t := .long) (t' := .boolean) (by decide) (by decide)))
  have c13 := Fbpd1.other W5 (Or.inr (slot_ne (Or.inl (ow hw 13 rfl)) (Or.inl (ow hw 52 rfl)) (by decide) (t := .long) (t' := (.object "java/lang/Long")) (by decide) (by decide)))
  have c14 := c13.other W6 (Or.inr (slot_ne (Or.inl (ow hw 13 rfl)) (Or.inl (ow hw 15 rfl)) (by decide) (t := .long) (t' := .boolean) (by decide) (by decide)))
  have c15 := Fw5.other W6 (Or.inr (slot_ne (Or.inl (ow hw 52 rfl)) (Or.inl (ow hw 15 rfl)) (by decide) (t := (.object "java/lang/Long")) (t' := .boolean) (by decide) (by decide)))
  obtain ⟨fsq, hr, hrun, hended, hW, hsame⟩ := X6.leave (v := none) (fun _ => rfl)
  refine ⟨_, _, pre0 _ ?_, hrun, hended, _, _, rfl, ?_, ⟨_, rfl⟩, hW, hsame.mono (by decide) (by decide)⟩
  · show Steps p.tables e below (s₁.setTop (mkF m 0 #[.val (.ref pq), .val (.long old), .second, .val (.ref a3), .val (.ref a4), .val (.ref a5), .val r4, .unset, .unset] [])) _
    refine XS.aload X0.here hx rfl (hb hby d7_0) rfl rfl ?_
    refine XS.ifnonnullYes X0.here hx rfl (pc0 := 2) (pc' := 10) rfl (hb hby d7_2) rfl (by decide) (by decide) ?_
    refine XS.aload X0.here hx rfl (hb hby d7_10) rfl rfl ?_
    refine XS.astore X0.here hx rfl (hb hby d7_12) rfl rfl (l' := #[.val (.ref pq), .val (.long old), .second, .val (.ref a3), .val (.ref a4), .val (.ref a5), .val r4, .val (.ref a5), .unset]) rfl ?_
    refine XS.aloadN X0.here hx rfl (hb hby d7_14) rfl rfl ?_
    refine st2 _ ?_
    refine XS.ifnullNo X2.here hx rfl (hb hby d7_18) rfl ?_
    refine XS.aloadN X2.here hx rfl (hb hby d7_21) rfl rfl ?_
    refine st3 _ ?_
    show Steps p.tables e below (T3.setTop (mkF m 25 #[.val (.ref pq), .val (.long old), .second, .val (.ref a3), .val (.ref a4), .val (.ref a5), .val r4, .val (.ref a5), .unset] [(.ref aj)])) _
    refine XS.aload X3.here hx rfl (hb hby d7_25) rfl rfl ?_
    refine st4.trans ?_
    refine XS.ifNo X4.here hx rfl (hb hby d7_30) rfl ((if0 _ _).trans (feq hc30).1) ?_
    refine XS.iconst X4.here hx rfl (hb hby d7_33) ?_
    refine XS.goto X4.here hx rfl (pc0 := 34) (pc' := 38) rfl (hb hby d7_34) (by decide) (by decide) ?_
    refine XS.istore X4.here hx rfl (hb hby d7_38) rfl (l' := #[.val (.ref pq), .val (.long old), .second, .val (.ref a3), .val (.ref a4), .val (.ref a5), .val r4, .val (.ref a5), .val (.int (1 : Int32))]) rfl ?_
    refine XS.iload X4.here hx rfl (hb hby d7_40) rfl ?_
    refine XS.ifYes X4.here hx rfl (pc0 := 42) (pc' := 53) rfl (hb hby d7_42) rfl ((if0 _ _).trans (feq ((by decide) : ¬ ((1 : Int32) = (0 : Int32)))).2) (by decide) (by decide) ?_
    refine XS.aloadN X4.here hx rfl (hb hby d7_53) rfl rfl ?_
    show Steps p.tables e below (T4.setTop (mkF m 54 #[.val (.ref pq), .val (.long old), .second, .val (.ref a3), .val (.ref a4), .val (.ref a5), .val r4, .val (.ref a5), .val (.int (1 : Int32))] [(.ref pq)])) _
    refine XS.aload X4.here hx rfl (hb hby d7_54) rfl rfl ?_
    refine XS.ifnonnullYes X4.here hx rfl (pc0 := 56) (pc' := 64) rfl (hb hby d7_56) rfl (by decide) (by decide) ?_
    refine XS.aload X4.here hx rfl (hb hby d7_64) rfl rfl ?_
    refine XS.goto X4.here hx rfl (pc0 := 66) (pc' := 70) rfl (hb hby d7_66) (by decide) (by decide) ?_
    refine st5 _ ?_
    refine XS.aloadN X5.here hx rfl (hb hby d7_73) rfl rfl ?_
    refine XS.aloadN X5.here hx rfl (hb hby d7_74) rfl rfl ?_
    refine XS.ifnullNo X5.here hx rfl (hb hby d7_75) rfl ?_
    refine XS.iconst X5.here hx rfl (hb hby d7_78) ?_
    show Steps p.tables e below (T5.setTop (mkF m 79 #[.val (.ref pq), .val (.long old), .second, .val (.ref a3), .val (.ref a4), .val (.ref a5), .val r4, .val (.ref a5), .val (.int (1 : Int32))] [(.int (1 : Int32)), (.ref pq)])) _
    refine XS.goto X5.here hx rfl (pc0 := 79) (pc' := 83) rfl (hb hby d7_79) (by decide) (by decide) ?_
    refine st6 _ ?_
    show Steps p.tables e below (T6.setTop (mkF m 86 #[.val (.ref pq), .val (.long old), .second, .val (.ref a3), .val (.ref a4), .val (.ref a5), .val r4, .val (.ref a5), .val (.int (1 : Int32))] [])) _
    exact X6.returnOut hx Bd.returns (hb hby d7_86) hr
  · show QRF Z pq fx fs (.ref a5) (.int (1 : Int32)) h0 n0 _ T6.heap _
    rw [e6]
    exact ⟨rfl, N6, kp9, ⟨c10, c12, c14, c15, Fw6⟩⟩
set_option maxRecDepth 65536 in
set_option maxHeartbeats 40000000 in
theorem rm7_R_R1_N (l : Launch) (Z : State) (a0 : Array Value) (hw : ∀ d ∈ tables_1, d.before a0 Z = true) (ws : List Jvm.Cond) (old : Int64) (pq : Addr) (fx : Int64) (fs : Int64) (sn : Value) (r4 : Value) (a5 : Addr) (v5 : Int64) (aj : Addr) (vj : Int64) (h0 : Heap) (n0 : Nat) (Z0 : n0 ≤ h0.size) (h4 : r4.isRef = true) (g0_pq : n0 ≤ pq) (PA : PdAt Z h0 pq fx fs (.ref aj) sn) (L12 : LR2 Z h0 .null .null none) (Lin : LR Z h0 (.ref a5) (some v5)) (EJ : Exa Z h0 aj "java/lang/Long") (FJ : Fld Z h0 aj "java/lang/Long" "value" "J" (.long vj)) (hc30 : ¬ ((if (some v5) = some vj then (1 : Int32) else 0) = (0 : Int32))) :
    MetFree l nm_7 (head1 (Jvm.Cond.code nm_7 prog_27_method_5_code 9 none :: ws) rr_2_0_0_32) (fun aa zU => aa = #[(.ref pq), (.long old), .null, .null, (.ref a5), r4] ∧ Z.Warmed39 zU.vm ∧ zU.heap = h0) (fun _ _ _ _ _ => True) (fun _ zU zo zU' => ∃ zv zL, zo = .returned zv ∧ QRF Z pq fx fs (.ref a5) (.int (0 : Int32)) h0 n0 zv zU'.heap zL ∧ FrameEnd zU zo zU' zL rr_2_0_0_32.cells rr_2_0_0_32.slots) := by
  refine MetFree.of_bodySF (plainFor_of_name pn_com_example_keyed_work_queue_keyedworkqueue_Pending) hisR ?_
  intro p e s m args below meth c s₁ Bd hml0 hP hK
  obtain ⟨rfl, hZ, hh⟩ := hP
  have hx := Bd.exec
  have hby := Bd.bytes
  have hml : c.maxLocals = 9 := hml0
  have hown : s.vm.findClass "com/example/keyed_work_queue/keyedworkqueue/Pending" = some m.cls := findClass_of_methodNamed Bd.named
  have hnm := (name_of_methodNamed Bd.named Bd.method).1
  have X0 : Stand p l e rr_2_0_0_32 s m #[(.ref pq), (.long old), .null, .null, (.ref a5), r4] below meth c s₁ [] 0 0 := Stand.of_body Bd
  have e0 : s₁.heap = h0 := by rw [← hh, Bd.state]; rfl
  have N0 := Fr.nil n0
  have pre0 : ∀ t, Steps p.tables e below (s₁.setTop (mkF m 0 #[.val (.ref pq), .val (.long old), .second, .val .null, .val .null, .val (.ref a5), .val r4, .unset, .unset] [])) t → Steps p.tables e below (s₁.setTop (entryFrame m #[(.ref pq), (.long old), .null, .null, (.ref a5), r4] 9)) t := fun t k => castTop (ef_7_RJNNRG m pq old a5 r4 h4) k
  obtain ⟨Epd1, Fapd1, Fbpd1, Fcpd1, Fdpd1⟩ := PA
  obtain ⟨T2, X2, e2, st2⟩ := getF X0 hx hZ hown (host := "") (Or.inl (ow hw 51 rfl)) Via.refl e0 Fcpd1 (g := (mkF m 15 #[.val (.ref pq), .val (.long old), .second, .val .null, .val .null, .val (.ref a5), .val r4, .val (.ref a5), .unset] [(.ref pq)])) rfl rfl (hb hby d7_15)
  obtain ⟨T3, X3, e3, st3⟩ := getF X2 hx hZ hown (host := "") (Or.inl (ow hw 51 rfl)) Via.refl e2 Fcpd1 (g := (mkF m 22 #[.val (.ref pq), .val (.long old), .second, .val .null, .val .null, .val (.ref a5), .val r4, .val (.ref a5), .unset] [(.ref pq)])) rfl rfl (hb hby d7_22)
  obtain ⟨cq4, kq4, q4a, q4b, q4c⟩ := isOf hZ e3 EJ
  obtain ⟨_, _, ⟨T4, L4, k4, n4⟩, -, X4, ⟨Lc4, hQ4, l4, y4, z4⟩, st4⟩ := X3.virtualBack hx (y := nm_14) (z := nm_14) hown (mvT hZ (ow hw 80 rfl)) (mvT hZ (ow hw 81 rfl)) (notFace_of_selects (args := #[]) (mvT hZ (ow hw 83 rfl))) (mvT hZ (ow hw 83 rfl)) (mvT hZ (ow hw 82 rfl)) (by decide) (backOf (W := 0) (rm14 l Z a0 hw [] aj vj (.ref a5) (some v5) h0 n0 Z0 FJ Lin) hZ (ow hw 84 rfl) (ow hw 25 rfl) (by decide) (by decide)) q4a q4c (g := (mkF m 27 #[.val (.ref pq), .val (.long old), .second, .val .null, .val .null, .val (.ref a5), .val r4, .val (.ref a5), .unset] [(.ref a5), (.ref aj)])) rfl (by rw [hml]; rfl) (Steps.refl _) (argsL := [(.ref a5)]) (rest := []) (lenOf pd_9 rfl) rfl (by show 2 * 0 + _ ≤ _; exact Nat.le_of_eq rfl) (hb hby d7_27) (fun _ _ => ⟨rfl, e3, (by decide : 0 + 0 ≤ _), (by decide : 0 + 0 ≤ _)⟩)
  dsimp only [Pt.U, Pt.locs, Pt.cells, Pt.slots] at X4 l4 y4 z4 st4 hQ4
  subst l4 y4 z4
  obtain ⟨rfl, N4q, e4⟩ := hQ4
  have N4 := Fr.app N0 N4q
  obtain ⟨T5, h5, X5, e5, W5, st5⟩ := putF X4 hx hZ hown (host := "") (Or.inl (ow hw 51 rfl)) Via.refl e4 Fcpd1 Epd1 (Or.inl (ow hw 52 rfl)) (ow hw 1 rfl) (ty := (.object "java/lang/Long")) (by decide) rfl rfl (g := (mkF m 70 #[.val (.ref pq), .val (.long old), .second, .val .null, .val .null, .val (.ref a5), .val r4, .val (.ref a5), .val (.int (1 : Int32))] [(.ref a5), (.ref pq)])) rfl rfl (hb hby d7_70)
  have Fw5 := Fcpd1.same W5
  have N5 := Fr.snoc X5 N4 g0_pq
  have c7 := Fdpd1.other W5 (Or.inr (slot_ne (Or.inl (ow hw 15 rfl)) (Or.inl (ow hw 52 rfl)) (by decide) (t := .boolean) (t' := (.object "java/lang/Long")) (by decide) (by decide)))
  have c8 := Epd1.wr W5
  obtain ⟨T6, h6, X6, e6, W6, st6⟩ := putFN X5 hx hZ hown (ow hw 14 rfl) Via.refl e5 c7 c8 (Or.inl (ow hw 15 rfl)) (ow hw 1 rfl) (ty := .boolean) (v' := (.int (0 : Int32))) (by decide) rfl rfl (g := (mkF m 83 #[.val (.ref pq), .val (.long old), .second, .val .null, .val .null, .val (.ref a5), .val r4, .val (.ref a5), .val (.int (1 : Int32))] [(.int (0 : Int32)), (.ref pq)])) rfl rfl (hb hby d7_83)
  have Fw6 := c7.same W6
  have N6 := Fr.snoc X6 N5 g0_pq
  have kp9 : Keep h0 h6 [pq] := (((Keep.refl h0 [pq]).wr W5 (Or.inl (List.mem_of_getElem? (i := 0) rfl))).wr W6 (Or.inl (List.mem_of_getElem? (i := 0) rfl)))
  have c10 := c8.wr W6
  have c11 := Fapd1.other W5 (Or.inr (slot_ne (Or.inl (ow hw 11 rfl)) (Or.inl (ow hw 52 rfl)) (by decide) (t := .long) (t' := (.object "java/lang/Long")) (by decide) (by decide)))
  have c12 := c11.other W6 (Or.inr (slot_ne (Or.inl (ow hw 11 rfl)) (Or.inl (ow hw 15 rfl)) (by decide) (t := .long) (t' := .boolean) (by decide) (by decide)))
  have c13 := Fbpd1.other W5 (Or.inr (slot_ne (Or.inl (ow hw 13 rfl)) (Or.inl (ow hw 52 rfl)) (by decide) (t := .long) (t' := (.object "java/lang/Long")) (by decide) (by decide)))
  have c14 := c13.other W6 (Or.inr (slot_ne (Or.inl (ow hw 13 rfl)) (Or.inl (ow hw 15 rfl)) (by decide) (t := .long) (t' := .boolean) (by decide) (by decide)))
  have c15 := Fw5.other W6 (Or.inr (slot_ne (Or.inl (ow hw 52 rfl)) (Or.inl (ow hw 15 rfl)) (by decide) (t := (.object "java/lang/Long")) (t' := .boolean) (by decide) (by decide)))
  obtain ⟨fsq, hr, hrun, hended, hW, hsame⟩ := X6.leave (v := none) (fun _ => rfl)
  refine ⟨_, _, pre0 _ ?_, hrun, hended, _, _, rfl, ?_, ⟨_, rfl⟩, hW, hsame.mono (by decide) (by decide)⟩
  · show Steps p.tables e below (s₁.setTop (mkF m 0 #[.val (.ref pq), .val (.long old), .second, .val .null, .val .null, .val (.ref a5), .val r4, .unset, .unset] [])) _
    refine XS.aload X0.here hx rfl (hb hby d7_0) rfl rfl ?_
    refine XS.ifnonnullYes X0.here hx rfl (pc0 := 2) (pc' := 10) rfl (hb hby d7_2) rfl (by decide) (by decide) ?_
    refine XS.aload X0.here hx rfl (hb hby d7_10) rfl rfl ?_
    refine XS.astore X0.here hx rfl (hb hby d7_12) rfl rfl (l' := #[.val (.ref pq), .val (.long old), .second, .val .null, .val .null, .val (.ref a5), .val r4, .val (.ref a5), .unset]) rfl ?_
    refine XS.aloadN X0.here hx rfl (hb hby d7_14) rfl rfl ?_
    refine st2 _ ?_
    refine XS.ifnullNo X2.here hx rfl (hb hby d7_18) rfl ?_
    refine XS.aloadN X2.here hx rfl (hb hby d7_21) rfl rfl ?_
    refine st3 _ ?_
    show Steps p.tables e below (T3.setTop (mkF m 25 #[.val (.ref pq), .val (.long old), .second, .val .null, .val .null, .val (.ref a5), .val r4, .val (.ref a5), .unset] [(.ref aj)])) _
    refine XS.aload X3.here hx rfl (hb hby d7_25) rfl rfl ?_
    refine st4.trans ?_
    refine XS.ifNo X4.here hx rfl (hb hby d7_30) rfl ((if0 _ _).trans (feq hc30).1) ?_
    refine XS.iconst X4.here hx rfl (hb hby d7_33) ?_
    refine XS.goto X4.here hx rfl (pc0 := 34) (pc' := 38) rfl (hb hby d7_34) (by decide) (by decide) ?_
    refine XS.istore X4.here hx rfl (hb hby d7_38) rfl (l' := #[.val (.ref pq), .val (.long old), .second, .val .null, .val .null, .val (.ref a5), .val r4, .val (.ref a5), .val (.int (1 : Int32))]) rfl ?_
    refine XS.iload X4.here hx rfl (hb hby d7_40) rfl ?_
    refine XS.ifYes X4.here hx rfl (pc0 := 42) (pc' := 53) rfl (hb hby d7_42) rfl ((if0 _ _).trans (feq ((by decide) : ¬ ((1 : Int32) = (0 : Int32)))).2) (by decide) (by decide) ?_
    refine XS.aloadN X4.here hx rfl (hb hby d7_53) rfl rfl ?_
    show Steps p.tables e below (T4.setTop (mkF m 54 #[.val (.ref pq), .val (.long old), .second, .val .null, .val .null, .val (.ref a5), .val r4, .val (.ref a5), .val (.int (1 : Int32))] [(.ref pq)])) _
    refine XS.aload X4.here hx rfl (hb hby d7_54) rfl rfl ?_
    refine XS.ifnonnullYes X4.here hx rfl (pc0 := 56) (pc' := 64) rfl (hb hby d7_56) rfl (by decide) (by decide) ?_
    refine XS.aload X4.here hx rfl (hb hby d7_64) rfl rfl ?_
    refine XS.goto X4.here hx rfl (pc0 := 66) (pc' := 70) rfl (hb hby d7_66) (by decide) (by decide) ?_
    refine st5 _ ?_
    refine XS.aloadN X5.here hx rfl (hb hby d7_73) rfl rfl ?_
    refine XS.aloadN X5.here hx rfl (hb hby d7_74) rfl rfl ?_
    refine XS.ifnullYes X5.here hx rfl (pc0 := 75) (pc' := 82) rfl (hb hby d7_75) rfl (by decide) (by decide) ?_
    refine XS.iconst X5.here hx rfl (hb hby d7_82) ?_
    show Steps p.tables e below (T5.setTop (mkF m 83 #[.val (.ref pq), .val (.long old), .second, .val .null, .val .null, .val (.ref a5), .val r4, .val (.ref a5), .val (.int (1 : Int32))] [(.int (0 : Int32)), (.ref pq)])) _
    refine st6 _ ?_
    show Steps p.tables e below (T6.setTop (mkF m 86 #[.val (.ref pq), .val (.long old), .second, .val .null, .val .null, .val (.ref a5), .val r4, .val (.ref a5), .val (.int (1 : Int32))] [])) _
    exact X6.returnOut hx Bd.returns (hb hby d7_86) hr
  · show QRF Z pq fx fs (.ref a5) (.int (0 : Int32)) h0 n0 _ T6.heap _
    rw [e6]
    exact ⟨rfl, N6, kp9, ⟨c10, c12, c14, c15, Fw6⟩⟩
theorem d7_5 : decode prog_27_method_5_code 5 = .ok (.aload 6, 2) := by decide +kernel
theorem d7_7 : decode prog_27_method_5_code 7 = .ok (.goto 5, 3) := by decide +kernel
theorem d7_59 : decode prog_27_method_5_code 59 = .ok (.iload 8, 2) := by decide +kernel
theorem d7_61 : decode prog_27_method_5_code 61 = .ok (.ifCond .eq 8, 3) := by decide +kernel
theorem d7_69 : decode prog_27_method_5_code 69 = .ok (.aconst_null, 1) := by decide +kernel
theorem ef_7_RJRRNG (m : MethodId) (x0 : Addr) (x1 : Int64) (x2 : Addr) (x3 : Addr) (x5 : Value) (hx5 : x5.isRef = true) : entryFrame m #[(.ref x0), (.long x1), (.ref x2), (.ref x3), .null, x5] 9 = mkF m 0 #[.val (.ref x0), .val (.long x1), .second, .val (.ref x2), .val (.ref x3), .val .null, .val x5, .unset, .unset] [] := by
  rcases ref_cases hx5 with rfl | ⟨z5, rfl⟩ <;> (first | (simp [entryFrame, mkF, argsToLocals, Value.category]; done) | rfl)
set_option maxRecDepth 65536 in
set_option maxHeartbeats 40000000 in
theorem rm7_N_N_R (l : Launch) (Z : State) (a0 : Array Value) (hw : ∀ d ∈ tables_1, d.before a0 Z = true) (ws : List Jvm.Cond) (old : Int64) (pq : Addr) (fx : Int64) (fs : Int64) (sn : Value) (r4 : Value) (a3 : Addr) (a4 : Addr) (x : Int64) (sq : Int64) (o4 : Option Int64) (h0 : Heap) (n0 : Nat) (Z0 : n0 ≤ h0.size) (h4 : r4.isRef = true) (g0_pq : n0 ≤ pq) (PA : PdAt Z h0 pq fx fs .null sn) (L12 : LR2 Z h0 (.ref a3) (.ref a4) (some (x, sq))) (Lin : LR Z h0 r4 o4) :
    MetFree l nm_7 (head1 (Jvm.Cond.code nm_7 prog_27_method_5_code 9 none :: ws) rr_2_0_0_32) (fun aa zU => aa = #[(.ref pq), (.long old), (.ref a3), (.ref a4), .null, r4] ∧ Z.Warmed39 zU.vm ∧ zU.heap = h0) (fun _ _ _ _ _ => True) (fun _ zU zo zU' => ∃ zv zL, zo = .returned zv ∧ QRF Z pq (own_raise (fx, fs) (own_cand old (some (x, sq)))).1 (own_raise (fx, fs) (own_cand old (some (x, sq)))).2 .null (.int (1 : Int32)) h0 n0 zv zU'.heap zL ∧ FrameEnd zU zo zU' zL rr_2_0_0_32.cells rr_2_0_0_32.slots) := by
  refine MetFree.of_bodySF (plainFor_of_name pn_com_example_keyed_work_queue_keyedworkqueue_Pending) hisR ?_
  intro p e s m args below meth c s₁ Bd hml0 hP hK
  obtain ⟨rfl, hZ, hh⟩ := hP
  have hx := Bd.exec
  have hby := Bd.bytes
  have hml : c.maxLocals = 9 := hml0
  have hown : s.vm.findClass "com/example/keyed_work_queue/keyedworkqueue/Pending" = some m.cls := findClass_of_methodNamed Bd.named
  have hnm := (name_of_methodNamed Bd.named Bd.method).1
  have X0 : Stand p l e rr_2_0_0_32 s m #[(.ref pq), (.long old), (.ref a3), (.ref a4), .null, r4] below meth c s₁ [] 0 0 := Stand.of_body Bd
  have e0 : s₁.heap = h0 := by rw [← hh, Bd.state]; rfl
  have N0 := Fr.nil n0
  have pre0 : ∀ t, Steps p.tables e below (s₁.setTop (mkF m 0 #[.val (.ref pq), .val (.long old), .second, .val (.ref a3), .val (.ref a4), .val .null, .val r4, .unset, .unset] [])) t → Steps p.tables e below (s₁.setTop (entryFrame m #[(.ref pq), (.long old), (.ref a3), (.ref a4), .null, r4] 9)) t := fun t k => castTop (ef_7_RJRRNG m pq old a3 a4 r4 h4) k
  obtain ⟨Epd1, Fapd1, Fbpd1, Fcpd1, Fdpd1⟩ := PA
  obtain ⟨T2, X2, e2, st2⟩ := getF X0 hx hZ hown (host := "") (Or.inl (ow hw 51 rfl)) Via.refl e0 Fcpd1 (g := (mkF m 15 #[.val (.ref pq), .val (.long old), .second, .val (.ref a3), .val (.ref a4), .val .null, .val r4, .val r4, .unset] [(.ref pq)])) rfl rfl (hb hby d7_15)
  obtain ⟨cq3, q3, q3'⟩ := Epd1.cell
  obtain ⟨_, _, ⟨T3, L3, k3, n3⟩, -, X3, ⟨Lc3, hQ3, l3, y3, z3⟩, st3⟩ := X2.privateBack hx (y := nm_8) hown (mvT hZ (ow hw 53 rfl)) (mvT hZ (ow hw 54 rfl)) (own_selP (mvT (args := #[]) hZ (ow hw 1 rfl)) (mvP hZ (ow hw 55 rfl) (args := #[])) (mvT hZ (ow hw 54 rfl)) (by decide)) (Cond.privateMethod_at (mvP hZ (ow hw 55 rfl) (args := #[]))) (mvT hZ (ow hw 56 rfl)) (by decide) (backOf (W := 0) (rm8 l Z a0 hw [] old (.ref a3) (.ref a4) (some (x, sq)) pq fx fs .null sn h0 n0 Z0 g0_pq ⟨Epd1, Fapd1, Fbpd1, Fcpd1, Fdpd1⟩ L12) hZ (ow hw 56 rfl) (ow hw 2 rfl) (by decide) (by decide)) (g := (mkF m 50 #[.val (.ref pq), .val (.long old), .second, .val (.ref a3), .val (.ref a4), .val .null, .val r4, .val r4, .val (.int (0 : Int32))] [(.ref a4), (.ref a3), (.long old), (.ref pq)])) rfl (by rw [hml]; rfl) (Steps.refl _) (a := pq) (by rw [e2]; exact q3) q3' (argsL := [(.long old), (.ref a3), (.ref a4)]) (rest := []) (lenOf pd_5 rfl) rfl (by show 2 * 0 + _ ≤ _; exact Nat.le_of_eq rfl) (hb hby d7_50) (fun _ _ => ⟨rfl, e2, (by decide : 0 + 0 ≤ _), (by decide : 0 + 0 ≤ _)⟩)
  dsimp only [Pt.U, Pt.locs, Pt.cells, Pt.slots] at X3 l3 y3 z3 st3 hQ3
  subst l3 y3 z3
  obtain ⟨rfl, N3q, K3, PB3⟩ := hQ3
  have N3 := Fr.app N0 N3q
  obtain ⟨Epd4, Fapd4, Fbpd4, Fcpd4, Fdpd4⟩ := PB3
  obtain ⟨T5, h5, X5, e5, W5, st5⟩ := putF X3 hx hZ hown (host := "") (Or.inl (ow hw 51 rfl)) Via.refl rfl Fcpd4 Epd4 (Or.inl (ow hw 52 rfl)) (ow hw 1 rfl) (ty := (.object "java/lang/Long")) (by decide) rfl rfl (g := (mkF m 70 #[.val (.ref pq), .val (.long old), .second, .val (.ref a3), .val (.ref a4), .val .null, .val r4, .val r4, .val (.int (0 : Int32))] [.null, (.ref pq)])) rfl rfl (hb hby d7_70)
  have Fw5 := Fcpd4.same W5
  have N5 := Fr.snoc X5 N3 g0_pq
  have c7 := Fdpd4.other W5 (Or.inr (slot_ne (Or.inl (ow hw 15 rfl)) (Or.inl (ow hw 52 rfl)) (by decide) (t := .boolean) (t' := (.object "java/lang/Long")) (by decide) (by decide)))
  have c8 := Epd4.wr W5
  obtain ⟨T6, h6, X6, e6, W6, st6⟩ := putFN X5 hx hZ hown (ow hw 14 rfl) Via.refl e5 c7 c8 (Or.inl (ow hw 15 rfl)) (ow hw 1 rfl) (ty := .boolean) (v' := (.int (1 : Int32))) (by decide) rfl rfl (g := (mkF m 83 #[.val (.ref pq), .val (.long old), .second, .val (.ref a3), .val (.ref a4), .val .null, .val r4, .val r4, .val (.int (0 : Int32))] [(.int (1 : Int32)), (.ref pq)])) rfl rfl (hb hby d7_83)
  have Fw6 := c7.same W6
  have N6 := Fr.snoc X6 N5 g0_pq
  have kp9 : Keep h0 h6 [pq] := ((((Keep.refl h0 [pq]).trans K3 (allS (Or.inl (List.mem_of_getElem? (i := 0) rfl)) all0)).wr W5 (Or.inl (List.mem_of_getElem? (i := 0) rfl))).wr W6 (Or.inl (List.mem_of_getElem? (i := 0) rfl)))
  have c10 := c8.wr W6
  have c11 := Fapd4.other W5 (Or.inr (slot_ne (Or.inl (ow hw 11 rfl)) (Or.inl (ow hw 52 rfl)) (by decide) (t := .long) (t' := (.object "java/lang/Long")) (by decide) (by decide)))
  have c12 := c11.other W6 (Or.inr (slot_ne (Or.inl (ow hw 11 rfl)) (Or.inl (ow hw 15 rfl)) (by decide) (t := .long) (t' := .boolean) (by decide) (by decide)))
  have c13 := Fbpd4.other W5 (Or.inr (slot_ne (Or.inl (ow hw 13 rfl)) (Or.inl (ow hw 52 rfl)) (by decide) (t := .long) (t' := (.object "java/lang/Long")) (by decide) (by decide)))
  have c14 := c13.other W6 (Or.inr (slot_ne (Or.inl (ow hw 13 rfl)) (Or.inl (ow hw 15 rfl)) (by decide) (t := .long) (t' := .boolean) (by decide) (by decide)))
  have c15 := Fw5.other W6 (Or.inr (slot_ne (Or.inl (ow hw 52 rfl)) (Or.inl (ow hw 15 rfl)) (by decide) (t := (.object "java/lang/Long")) (t' := .boolean) (by decide) (by decide)))
  obtain ⟨fsq, hr, hrun, hended, hW, hsame⟩ := X6.leave (v := none) (fun _ => rfl)
  refine ⟨_, _, pre0 _ ?_, hrun, hended, _, _, rfl, ?_, ⟨_, rfl⟩, hW, hsame.mono (by decide) (by decide)⟩
  · show Steps p.tables e below (s₁.setTop (mkF m 0 #[.val (.ref pq), .val (.long old), .second, .val (.ref a3), .val (.ref a4), .val .null, .val r4, .unset, .unset] [])) _
    refine XS.aload X0.here hx rfl (hb hby d7_0) rfl rfl ?_
    refine XS.ifnonnullNo X0.here hx rfl (hb hby d7_2) rfl ?_
    refine XS.aload X0.here hx rfl (hb hby d7_5) rfl h4 ?_
    refine XS.goto X0.here hx rfl (pc0 := 7) (pc' := 12) rfl (hb hby d7_7) (by decide) (by decide) ?_
    refine XS.astore X0.here hx rfl (hb hby d7_12) rfl h4 (l' := #[.val (.ref pq), .val (.long old), .second, .val (.ref a3), .val (.ref a4), .val .null, .val r4, .val r4, .unset]) (own_store rfl (Or.inl rfl) (own_cat h4) rfl) ?_
    refine XS.aloadN X0.here hx rfl (hb hby d7_14) rfl rfl ?_
    refine st2 _ ?_
    refine XS.ifnullYes X2.here hx rfl (pc0 := 18) (pc' := 37) rfl (hb hby d7_18) rfl (by decide) (by decide) ?_
    refine XS.iconst X2.here hx rfl (hb hby d7_37) ?_
    show Steps p.tables e below (T2.setTop (mkF m 38 #[.val (.ref pq), .val (.long old), .second, .val (.ref a3), .val (.ref a4), .val .null, .val r4, .val r4, .unset] [(.int (0 : Int32))])) _
    refine XS.istore X2.here hx rfl (hb hby d7_38) rfl (l' := #[.val (.ref pq), .val (.long old), .second, .val (.ref a3), .val (.ref a4), .val .null, .val r4, .val r4, .val (.int (0 : Int32))]) rfl ?_
    refine XS.iload X2.here hx rfl (hb hby d7_40) rfl ?_
    refine XS.ifNo X2.here hx rfl (hb hby d7_42) rfl ((if0 _ _).trans (teq (rfl : (0 : Int32) = (0 : Int32))).2) ?_
    refine XS.aloadN X2.here hx rfl (hb hby d7_45) rfl rfl ?_
    refine XS.lloadN X2.here hx rfl (hb hby d7_46) rfl ?_
    refine XS.aloadN X2.here hx rfl (hb hby d7_47) rfl rfl ?_
    refine XS.aload X2.here hx rfl (hb hby d7_48) rfl rfl ?_
    refine st3.trans ?_
    refine XS.aloadN X3.here hx rfl (hb hby d7_53) rfl rfl ?_
    show Steps p.tables e below (T3.setTop (mkF m 54 #[.val (.ref pq), .val (.long old), .second, .val (.ref a3), .val (.ref a4), .val .null, .val r4, .val r4, .val (.int (0 : Int32))] [(.ref pq)])) _
    refine XS.aload X3.here hx rfl (hb hby d7_54) rfl rfl ?_
    refine XS.ifnonnullNo X3.here hx rfl (hb hby d7_56) rfl ?_
    refine XS.iload X3.here hx rfl (hb hby d7_59) rfl ?_
    refine XS.ifYes X3.here hx rfl (pc0 := 61) (pc' := 69) rfl (hb hby d7_61) rfl ((if0 _ _).trans (teq (rfl : (0 : Int32) = (0 : Int32))).1) (by decide) (by decide) ?_
    refine XS.aconstNull X3.here hx rfl (hb hby d7_69) ?_
    refine st5 _ ?_
    refine XS.aloadN X5.here hx rfl (hb hby d7_73) rfl rfl ?_
    refine XS.aloadN X5.here hx rfl (hb hby d7_74) rfl rfl ?_
    refine XS.ifnullNo X5.here hx rfl (hb hby d7_75) rfl ?_
    show Steps p.tables e below (T5.setTop (mkF m 78 #[.val (.ref pq), .val (.long old), .second, .val (.ref a3), .val (.ref a4), .val .null, .val r4, .val r4, .val (.int (0 : Int32))] [(.ref pq)])) _
    refine XS.iconst X5.here hx rfl (hb hby d7_78) ?_
    refine XS.goto X5.here hx rfl (pc0 := 79) (pc' := 83) rfl (hb hby d7_79) (by decide) (by decide) ?_
    refine st6 _ ?_
    show Steps p.tables e below (T6.setTop (mkF m 86 #[.val (.ref pq), .val (.long old), .second, .val (.ref a3), .val (.ref a4), .val .null, .val r4, .val r4, .val (.int (0 : Int32))] [])) _
    exact X6.returnOut hx Bd.returns (hb hby d7_86) hr
  · show QRF Z pq (own_raise (fx, fs) (own_cand old (some (x, sq)))).1 (own_raise (fx, fs) (own_cand old (some (x, sq)))).2 .null (.int (1 : Int32)) h0 n0 _ T6.heap _
    rw [e6]
    exact ⟨rfl, N6, kp9, ⟨c10, c12, c14, c15, Fw6⟩⟩
theorem ef_7_RJNNNG (m : MethodId) (x0 : Addr) (x1 : Int64) (x5 : Value) (hx5 : x5.isRef = true) : entryFrame m #[(.ref x0), (.long x1), .null, .null, .null, x5] 9 = mkF m 0 #[.val (.ref x0), .val (.long x1), .second, .val .null, .val .null, .val .null, .val x5, .unset, .unset] [] := by
  rcases ref_cases hx5 with rfl | ⟨z5, rfl⟩ <;> (first | (simp [entryFrame, mkF, argsToLocals, Value.category]; done) | rfl)
set_option maxRecDepth 65536 in
set_option maxHeartbeats 40000000 in
theorem rm7_N_N_N (l : Launch) (Z : State) (a0 : Array Value) (hw : ∀ d ∈ tables_1, d.before a0 Z = true) (ws : List Jvm.Cond) (old : Int64) (pq : Addr) (fx : Int64) (fs : Int64) (sn : Value) (r4 : Value) (o4 : Option Int64) (h0 : Heap) (n0 : Nat) (Z0 : n0 ≤ h0.size) (h4 : r4.isRef = true) (g0_pq : n0 ≤ pq) (PA : PdAt Z h0 pq fx fs .null sn) (L12 : LR2 Z h0 .null .null none) (Lin : LR Z h0 r4 o4) :
    MetFree l nm_7 (head1 (Jvm.Cond.code nm_7 prog_27_method_5_code 9 none :: ws) rr_2_0_0_32) (fun aa zU => aa = #[(.ref pq), (.long old), .null, .null, .null, r4] ∧ Z.Warmed39 zU.vm ∧ zU.heap = h0) (fun _ _ _ _ _ => True) (fun _ zU zo zU' => ∃ zv zL, zo = .returned zv ∧ QRF Z pq (own_raise (fx, fs) (own_cand old none)).1 (own_raise (fx, fs) (own_cand old none)).2 .null (.int (0 : Int32)) h0 n0 zv zU'.heap zL ∧ FrameEnd zU zo zU' zL rr_2_0_0_32.cells rr_2_0_0_32.slots) := by
  refine MetFree.of_bodySF (plainFor_of_name pn_com_example_keyed_work_queue_keyedworkqueue_Pending) hisR ?_
  intro p e s m args below meth c s₁ Bd hml0 hP hK
  obtain ⟨rfl, hZ, hh⟩ := hP
  have hx := Bd.exec
  have hby := Bd.bytes
  have hml : c.maxLocals = 9 := hml0
  have hown : s.vm.findClass "com/example/keyed_work_queue/keyedworkqueue/Pending" = some m.cls := findClass_of_methodNamed Bd.named
  have hnm := (name_of_methodNamed Bd.named Bd.method).1
  have X0 : Stand p l e rr_2_0_0_32 s m #[(.ref pq), (.long old), .null, .null, .null, r4] below meth c s₁ [] 0 0 := Stand.of_body Bd
  have e0 : s₁.heap = h0 := by rw [← hh, Bd.state]; rfl
  have N0 := Fr.nil n0
  have pre0 : ∀ t, Steps p.tables e below (s₁.setTop (mkF m 0 #[.val (.ref pq), .val (.long old), .second, .val .null, .val .null, .val .null, .val r4, .unset, .unset] [])) t → Steps p.tables e below (s₁.setTop (entryFrame m #[(.ref pq), (.long old), .null, .null, .null, r4] 9)) t := fun t k => castTop (ef_7_RJNNNG m pq old r4 h4) k
  obtain ⟨Epd1, Fapd1, Fbpd1, Fcpd1, Fdpd1⟩ := PA
  obtain ⟨T2, X2, e2, st2⟩ := getF X0 hx hZ hown (host := "") (Or.inl (ow hw 51 rfl)) Via.refl e0 Fcpd1 (g := (mkF m 15 #[.val (.ref pq), .val (.long old), .second, .val .null, .val .null, .val .null, .val r4, .val r4, .unset] [(.ref pq)])) rfl rfl (hb hby d7_15)
  obtain ⟨cq3, q3, q3'⟩ := Epd1.cell
  obtain ⟨_, _, ⟨T3, L3, k3, n3⟩, -, X3, ⟨Lc3, hQ3, l3, y3, z3⟩, st3⟩ := X2.privateBack hx (y := nm_8) hown (mvT hZ (ow hw 53 rfl)) (mvT hZ (ow hw 54 rfl)) (own_selP (mvT (args := #[]) hZ (ow hw 1 rfl)) (mvP hZ (ow hw 55 rfl) (args := #[])) (mvT hZ (ow hw 54 rfl)) (by decide)) (Cond.privateMethod_at (mvP hZ (ow hw 55 rfl) (args := #[]))) (mvT hZ (ow hw 56 rfl)) (by decide) (backOf (W := 0) (rm8 l Z a0 hw [] old .null .null none pq fx fs .null sn h0 n0 Z0 g0_pq ⟨Epd1, Fapd1, Fbpd1, Fcpd1, Fdpd1⟩ L12) hZ (ow hw 56 rfl) (ow hw 2 rfl) (by decide) (by decide)) (g := (mkF m 50 #[.val (.ref pq), .val (.long old), .second, .val .null, .val .null, .val .null, .val r4, .val r4, .val (.int (0 : Int32))] [.null, .null, (.long old), (.ref pq)])) rfl (by rw [hml]; rfl) (Steps.refl _) (a := pq) (by rw [e2]; exact q3) q3' (argsL := [(.long old), .null, .null]) (rest := []) (lenOf pd_5 rfl) rfl (by show 2 * 0 + _ ≤ _; exact Nat.le_of_eq rfl) (hb hby d7_50) (fun _ _ => ⟨rfl, e2, (by decide : 0 + 0 ≤ _), (by decide : 0 + 0 ≤ _)⟩)
  dsimp only [Pt.U, Pt.locs, Pt.cells, Pt.slots] at X3 l3 y3 z3 st3 hQ3
  subst l3 y3 z3
  obtain ⟨rfl, N3q, K3, PB3⟩ := hQ3
  have N3 := Fr.app N0 N3q
  obtain ⟨Epd4, Fapd4, Fbpd4, Fcpd4, Fdpd4⟩ := PB3
  obtain ⟨T5, h5, X5, e5, W5, st5⟩ := putF X3 hx hZ hown (host := "") (Or.inl (ow hw 51 rfl)) Via.refl rfl Fcpd4 Epd4 (Or.inl (ow hw 52 rfl)) (ow hw 1 rfl) (ty := (.object "java/lang/Long")) (by decide) rfl rfl (g := (mkF m 70 #[.val (.ref pq), .val (.long old), .second, .val .null, .val .null, .val .null, .val r4, .val r4, .val (.int (0 : Int32))] [.null, (.ref pq)])) rfl rfl (hb hby d7_70)
  have Fw5 := Fcpd4.same W5
  have N5 := Fr.snoc X5 N3 g0_pq
  have c7 := Fdpd4.other W5 (Or.inr (slot_ne (Or.inl (ow hw 15 rfl)) (Or.inl (ow hw 52 rfl)) (by decide) (t := .boolean) (t' := (.object "java/lang/Long")) (by decide) (by decide)))
  have c8 := Epd4.wr W5
  obtain ⟨T6, h6, X6, e6, W6, st6⟩ := putFN X5 hx hZ hown (ow hw 14 rfl) Via.refl e5 c7 c8 (Or.inl (ow hw 15 rfl)) (ow hw 1 rfl) (ty := .boolean) (v' := (.int (0 : Int32))) (by decide) rfl rfl (g := (mkF m 83 #[.val (.ref pq), .val (.long old), .second, .val .null, .val .null, .val .null, .val r4, .val r4, .val (.int (0 : Int32))] [(.int (0 : Int32)), (.ref pq)])) rfl rfl (hb hby d7_83)
  have Fw6 := c7.same W6
  have N6 := Fr.snoc X6 N5 g0_pq
  have kp9 : Keep h0 h6 [pq] := ((((Keep.refl h0 [pq]).trans K3 (allS (Or.inl (List.mem_of_getElem? (i := 0) rfl)) all0)).wr W5 (Or.inl (List.mem_of_getElem? (i := 0) rfl))).wr W6 (Or.inl (List.mem_of_getElem? (i := 0) rfl)))
  have c10 := c8.wr W6
  have c11 := Fapd4.other W5 (Or.inr (slot_ne (Or.inl (ow hw 11 rfl)) (Or.inl (ow hw 52 rfl)) (by decide) (t := .long) (t' := (.object "java/lang/Long")) (by decide) (by decide)))
  have c12 := c11.other W6 (Or.inr (slot_ne (Or.inl (ow hw 11 rfl)) (Or.inl (ow hw 15 rfl)) (by decide) (t := .long) (t' := .boolean) (by decide) (by decide)))
  have c13 := Fbpd4.other W5 (Or.inr (slot_ne (Or.inl (ow hw 13 rfl)) (Or.inl (ow hw 52 rfl)) (by decide) (t := .long) (t' := (.object "java/lang/Long")) (by decide) (by decide)))
  have c14 := c13.other W6 (Or.inr (slot_ne (Or.inl (ow hw 13 rfl)) (Or.inl (ow hw 15 rfl)) (by decide) (t := .long) (t' := .boolean) (by decide) (by decide)))
  have c15 := Fw5.other W6 (Or.inr (slot_ne (Or.inl (ow hw 52 rfl)) (Or.inl (ow hw 15 rfl)) (by decide) (t := (.object "java/lang/Long")) (t' := .boolean) (by decide) (by decide)))
  obtain ⟨fsq, hr, hrun, hended, hW, hsame⟩ := X6.leave (v := none) (fun _ => rfl)
  refine ⟨_, _, pre0 _ ?_, hrun, hended, _, _, rfl, ?_, ⟨_, rfl⟩, hW, hsame.mono (by decide) (by decide)⟩
  · show Steps p.tables e below (s₁.setTop (mkF m 0 #[.val (.ref pq), .val (.long old), .second, .val .null, .val .null, .val .null, .val r4, .unset, .unset] [])) _
    refine XS.aload X0.here hx rfl (hb hby d7_0) rfl rfl ?_
    refine XS.ifnonnullNo X0.here hx rfl (hb hby d7_2) rfl ?_
    refine XS.aload X0.here hx rfl (hb hby d7_5) rfl h4 ?_
    refine XS.goto X0.here hx rfl (pc0 := 7) (pc' := 12) rfl (hb hby d7_7) (by decide) (by decide) ?_
    refine XS.astore X0.here hx rfl (hb hby d7_12) rfl h4 (l' := #[.val (.ref pq), .val (.long old), .second, .val .null, .val .null, .val .null, .val r4, .val r4, .unset]) (own_store rfl (Or.inl rfl) (own_cat h4) rfl) ?_
    refine XS.aloadN X0.here hx rfl (hb hby d7_14) rfl rfl ?_
    refine st2 _ ?_
    refine XS.ifnullYes X2.here hx rfl (pc0 := 18) (pc' := 37) rfl (hb hby d7_18) rfl (by decide) (by decide) ?_
    refine XS.iconst X2.here hx rfl (hb hby d7_37) ?_
    show Steps p.tables e below (T2.setTop (mkF m 38 #[.val (.ref pq), .val (.long old), .second, .val .null, .val .null, .val .null, .val r4, .val r4, .unset] [(.int (0 : Int32))])) _
    refine XS.istore X2.here hx rfl (hb hby d7_38) rfl (l' := #[.val (.ref pq), .val (.long old), .second, .val .null, .val .null, .val .null, .val r4, .val r4, .val (.int (0 : Int32))]) rfl ?_
    refine XS.iload X2.here hx rfl (hb hby d7_40) rfl ?_
    refine XS.ifNo X2.here hx rfl (hb hby d7_42) rfl ((if0 _ _).trans (teq (rfl : (0 : Int32) = (0 : Int32))).2) ?_
    refine XS.aloadN X2.here hx rfl (hb hby d7_45) rfl rfl ?_
    refine XS.lloadN X2.here hx rfl (hb hby d7_46) rfl ?_
    refine XS.aloadN X2.here hx rfl (hb hby d7_47) rfl rfl ?_
    refine XS.aload X2.here hx rfl (hb hby d7_48) rfl rfl ?_
    refine st3.trans ?_
    refine XS.aloadN X3.here hx rfl (hb hby d7_53) rfl rfl ?_
    show Steps p.tables e below (T3.setTop (mkF m 54 #[.val (.ref pq), .val (.long old), .second, .val .null, .val .null, .val .null, .val r4, .val r4, .val (.int (0 : Int32))] [(.ref pq)])) _
    refine XS.aload X3.here hx rfl (hb hby d7_54) rfl rfl ?_
    refine XS.ifnonnullNo X3.here hx rfl (hb hby d7_56) rfl ?_
    refine XS.iload X3.here hx rfl (hb hby d7_59) rfl ?_
    refine XS.ifYes X3.here hx rfl (pc0 := 61) (pc' := 69) rfl (hb hby d7_61) rfl ((if0 _ _).trans (teq (rfl : (0 : Int32) = (0 : Int32))).1) (by decide) (by decide) ?_
    refine XS.aconstNull X3.here hx rfl (hb hby d7_69) ?_
    refine st5 _ ?_
    refine XS.aloadN X5.here hx rfl (hb hby d7_73) rfl rfl ?_
    refine XS.aloadN X5.here hx rfl (hb hby d7_74) rfl rfl ?_
    refine XS.ifnullYes X5.here hx rfl (pc0 := 75) (pc' := 82) rfl (hb hby d7_75) rfl (by decide) (by decide) ?_
    show Steps p.tables e below (T5.setTop (mkF m 82 #[.val (.ref pq), .val (.long old), .second, .val .null, .val .null, .val .null, .val r4, .val r4, .val (.int (0 : Int32))] [(.ref pq)])) _
    refine XS.iconst X5.here hx rfl (hb hby d7_82) ?_
    refine st6 _ ?_
    show Steps p.tables e below (T6.setTop (mkF m 86 #[.val (.ref pq), .val (.long old), .second, .val .null, .val .null, .val .null, .val r4, .val r4, .val (.int (0 : Int32))] [])) _
    exact X6.returnOut hx Bd.returns (hb hby d7_86) hr
  · show QRF Z pq (own_raise (fx, fs) (own_cand old none)).1 (own_raise (fx, fs) (own_cand old none)).2 .null (.int (0 : Int32)) h0 n0 _ T6.heap _
    rw [e6]
    exact ⟨rfl, N6, kp9, ⟨c10, c12, c14, c15, Fw6⟩⟩
set_option maxRecDepth 65536 in
set_option maxHeartbeats 40000000 in
theorem rm7_N_R0_R (l : Launch) (Z : State) (a0 : Array Value) (hw : ∀ d ∈ tables_1, d.before a0 Z = true) (ws : List Jvm.Cond) (old : Int64) (pq : Addr) (fx : Int64) (fs : Int64) (sn : Value) (r4 : Value) (a3 : Addr) (a4 : Addr) (x : Int64) (sq : Int64) (o4 : Option Int64) (aj : Addr) (vj : Int64) (h0 : Heap) (n0 : Nat) (Z0 : n0 ≤ h0.size) (h4 : r4.isRef = true) (g0_pq : n0 ≤ pq) (PA : PdAt Z h0 pq fx fs (.ref aj) sn) (L12 : LR2 Z h0 (.ref a3) (.ref a4) (some (x, sq))) (Lin : LR Z h0 r4 o4) (EJ : Exa Z h0 aj "java/lang/Long") (FJ : Fld Z h0 aj "java/lang/Long" "value" "J" (.long vj)) (hc30 : (if o4 = some vj then (1 : Int32) else 0) = (0 : Int32)) :
    MetFree l nm_7 (head1 (Jvm.Cond.code nm_7 prog_27_method_5_code 9 none :: ws) rr_2_0_0_32) (fun aa zU => aa = #[(.ref pq), (.long old), (.ref a3), (.ref a4), .null, r4] ∧ Z.Warmed39 zU.vm ∧ zU.heap = h0) (fun _ _ _ _ _ => True) (fun _ zU zo zU' => ∃ zv zL, zo = .returned zv ∧ QRF Z pq (own_raise (fx, fs) (own_cand old (some (x, sq)))).1 (own_raise (fx, fs) (own_cand old (some (x, sq)))).2 .null (.int (1 : Int32)) h0 n0 zv zU'.heap zL ∧ FrameEnd zU zo zU' zL rr_2_0_0_32.cells rr_2_0_0_32.slots) := by
  refine MetFree.of_bodySF (plainFor_of_name pn_com_example_keyed_work_queue_keyedworkqueue_Pending) hisR ?_
  intro p e s m args below meth c s₁ Bd hml0 hP hK
  obtain ⟨rfl, hZ, hh⟩ := hP
  have hx := Bd.exec
  have hby := Bd.bytes
  have hml : c.maxLocals = 9 := hml0
  have hown : s.vm.findClass "com/example/keyed_work_queue/keyedworkqueue/Pending" = some m.cls := findClass_of_methodNamed Bd.named
  have hnm := (name_of_methodNamed Bd.named Bd.method).1
  have X0 : Stand p l e rr_2_0_0_32 s m #[(.ref pq), (.long old), (.ref a3), (.ref a4), .null, r4] below meth c s₁ [] 0 0 := Stand.of_body Bd
  have e0 : s₁.heap = h0 := by rw [← hh, Bd.state]; rfl
  have N0 := Fr.nil n0
  have pre0 : ∀ t, Steps p.tables e below (s₁.setTop (mkF m 0 #[.val (.ref pq), .val (.long old), .second, .val (.ref a3), .val (.ref a4), .val .null, .val r4, .unset, .unset] [])) t → Steps p.tables e below (s₁.setTop (entryFrame m #[(.ref pq), (.long old), (.ref a3), (.ref a4), .null, r4] 9)) t := fun t k => castTop (ef_7_RJRRNG m pq old a3 a4 r4 h4) k
  obtain ⟨Epd1, Fapd1, Fbpd1, Fcpd1, Fdpd1⟩ := PA
  obtain ⟨T2, X2, e2, st2⟩ := getF X0 hx hZ hown (host := "") (Or.inl (ow hw 51 rfl)) Via.refl e0 Fcpd1 (g := (mkF m 15 #[.val (.ref pq), .val (.long old), .second, .val (.ref a3), .val (.ref a4), .val .null, .val r4, .val r4, .unset] [(.ref pq)])) rfl rfl (hb hby d7_15)
  obtain ⟨T3, X3, e3, st3⟩ := getF X2 hx hZ hown (host := "") (Or.inl (ow hw 51 rfl)) Via.refl e2 Fcpd1 (g := (mkF m 22 #[.val (.ref pq), .val (.long old), .second, .val (.ref a3), .val (.ref a4), .val .null, .val r4, .val r4, .unset] [(.ref pq)])) rfl rfl (hb hby d7_22)
  obtain ⟨cq4, kq4, q4a, q4b, q4c⟩ := isOf hZ e3 EJ
  obtain ⟨_, _, ⟨T4, L4, k4, n4⟩, -, X4, ⟨Lc4, hQ4, l4, y4, z4⟩, st4⟩ := X3.virtualBack hx (y := nm_14) (z := nm_14) hown (mvT hZ (ow hw 80 rfl)) (mvT hZ (ow hw 81 rfl)) (notFace_of_selects (args := #[]) (mvT hZ (ow hw 83 rfl))) (mvT hZ (ow hw 83 rfl)) (mvT hZ (ow hw 82 rfl)) (by decide) (backOf (W := 0) (rm14 l Z a0 hw [] aj vj r4 o4 h0 n0 Z0 FJ Lin) hZ (ow hw 84 rfl) (ow hw 25 rfl) (by decide) (by decide)) q4a q4c (g := (mkF m 27 #[.val (.ref pq), .val (.long old), .second, .val (.ref a3), .val (.ref a4), .val .null, .val r4, .val r4, .unset] [r4, (.ref aj)])) rfl (by rw [hml]; rfl) (Steps.refl _) (argsL := [r4]) (rest := []) (lenOf pd_9 rfl) rfl (by show 2 * 0 + _ ≤ _; exact Nat.le_of_eq rfl) (hb hby d7_27) (fun _ _ => ⟨rfl, e3, (by decide : 0 + 0 ≤ _), (by decide : 0 + 0 ≤ _)⟩)
  dsimp only [Pt.U, Pt.locs, Pt.cells, Pt.slots] at X4 l4 y4 z4 st4 hQ4
  subst l4 y4 z4
  obtain ⟨rfl, N4q, e4⟩ := hQ4
  have N4 := Fr.app N0 N4q
  obtain ⟨cq5, q5, q5'⟩ := Epd1.cell
  obtain ⟨_, _, ⟨T5, L5, k5, n5⟩, -, X5, ⟨Lc5, hQ5, l5, y5, z5⟩, st5⟩ := X4.privateBack hx (y := nm_8) hown (mvT hZ (ow hw 53 rfl)) (mvT hZ (ow hw 54 rfl)) (own_selP (mvT (args := #[]) hZ (ow hw 1 rfl)) (mvP hZ (ow hw 55 rfl) (args := #[])) (mvT hZ (ow hw 54 rfl)) (by decide)) (Cond.privateMethod_at (mvP hZ (ow hw 55 rfl) (args := #[]))) (mvT hZ (ow hw 56 rfl)) (by decide) (backOf (W := 0) (rm8 l Z a0 hw [] old (.ref a3) (.ref a4) (some (x, sq)) pq fx fs (.ref aj) sn h0 n0 Z0 g0_pq ⟨Epd1, Fapd1, Fbpd1, Fcpd1, Fdpd1⟩ L12) hZ (ow hw 56 rfl) (ow hw 2 rfl) (by decide) (by decide)) (g := (mkF m 50 #[.val (.ref pq), .val (.long old), .second, .val (.ref a3), .val (.ref a4), .val .null, .val r4, .val r4, .val (.int (0 : Int32))] [(.ref a4), (.ref a3), (.long old), (.ref pq)])) rfl (by rw [hml]; rfl) (Steps.refl _) (a := pq) (by rw [e4]; exact q5) q5' (argsL := [(.long old), (.ref a3), (.ref a4)]) (rest := []) (lenOf pd_5 rfl) rfl (by show 2 * 0 + _ ≤ _; exact Nat.le_of_eq rfl) (hb hby d7_50) (fun _ _ => ⟨rfl, e4, (by decide : 0 + 0 ≤ _), (by decide : 0 + 0 ≤ _)⟩)
  dsimp only [Pt.U, Pt.locs, Pt.cells, Pt.slots] at X5 l5 y5 z5 st5 hQ5
  subst l5 y5 z5
  obtain ⟨rfl, N5q, K5, PB5⟩ := hQ5
  have N5 := Fr.app N4 N5q
  obtain ⟨Epd6, Fapd6, Fbpd6, Fcpd6, Fdpd6⟩ := PB5
  obtain ⟨T7, h7, X7, e7, W7, st7⟩ := putF X5 hx hZ hown (host := "") (Or.inl (ow hw 51 rfl)) Via.refl rfl Fcpd6 Epd6 (Or.inl (ow hw 52 rfl)) (ow hw 1 rfl) (ty := (.object "java/lang/Long")) (by decide) rfl rfl (g := (mkF m 70 #[.val (.ref pq), .val (.long old), .second, .val (.ref a3), .val (.ref a4), .val .null, .val r4, .val r4, .val (.int (0 : Int32))] [.null, (.ref pq)])) rfl rfl (hb hby d7_70)
  have Fw7 := Fcpd6.same W7
  have N7 := Fr.snoc X7 N5 g0_pq
  have c9 := Fdpd6.other W7 (Or.inr (slot_ne (Or.inl (ow hw 15 rfl)) (Or.inl (ow hw 52 rfl)) (by decide) (t := .boolean) (t' := (.object "java/lang/Long")) (by decide) (by decide)))
  have c10 := Epd6.wr W7
  obtain ⟨T8, h8, X8, e8, W8, st8⟩ := putFN X7 hx hZ hown (ow hw 14 rfl) Via.refl e7 c9 c10 (Or.inl (ow hw 15 rfl)) (ow hw 1 rfl) (ty := .boolean) (v' := (.int (1 : Int32))) (by decide) rfl rfl (g := (mkF m 83 #[.val (.ref pq), .val (.long old), .second, .val (.ref a3), .val (.ref a4), .val .null, .val r4, .val r4, .val (.int (0 : Int32))] [(.int (1 : Int32)), (.ref pq)])) rfl rfl (hb hby d7_83)
  have Fw8 := c9.same W8
  have N8 := Fr.snoc X8 N7 g0_pq
  have kp11 : Keep h0 h8 [pq] := ((((Keep.refl h0 [pq]).trans K5 (allS (Or.inl (List.mem_of_getElem? (i := 0) rfl)) all0)).wr W7 (Or.inl (List.mem_of_getElem? (i := 0) rfl))).wr W8 (Or.inl (List.mem_of_getElem? (i := 0) rfl)))
  have c12 := c10.wr W8
  have c13 := Fapd6.other W7 (Or.inr (slot_ne (Or.inl (ow hw 11 rfl)) (Or.inl (ow hw 52 rfl)) (by decide) (t := .long) (t' := (.object "java/lang/Long")) (by decide) (by decide)))
  have c14 := c13.other W8 (Or.inr (slot_ne (Or.inl (ow hw 11 rfl)) (Or.inl (ow hw 15 rfl)) (by decide) (t := .long) (t' := .boolean) (by decide) (by decide)))
  have c15 := Fbpd6.other W7 (Or.inr (slot_ne (Or.inl (ow hw 13 rfl)) (Or.inl (ow hw 52 rfl)) (by decide) (t := .long) (t' := (.object "java/lang/Long")) (by decide) (by decide)))
  have c16 := c15.other W8 (Or.inr (slot_ne (Or.inl (ow hw 13 rfl)) (Or.inl (ow hw 15 rfl)) (by decide) (t := .long) (t' := .boolean) (by decide) (by decide)))
  have c17 := Fw7.other W8 (Or.inr (slot_ne (Or.inl (ow hw 52 rfl)) (Or.inl (ow hw 15 rfl)) (by decide) (t := (.object "java/lang/Long")) (t' := .boolean) (by decide) (by decide)))
  obtain ⟨fsq, hr, hrun, hended, hW, hsame⟩ := X8.leave (v := none) (fun _ => rfl)
  refine ⟨_, _, pre0 _ ?_, hrun, hended, _, _, rfl, ?_, ⟨_, rfl⟩, hW, hsame.mono (by decide) (by decide)⟩
  · show Steps p.tables e below (s₁.setTop (mkF m 0 #[.val (.ref pq), .val (.long old), .second, .val (.ref a3), .val (.ref a4), .val .null, .val r4, .unset, .unset] [])) _
    refine XS.aload X0.here hx rfl (hb hby d7_0) rfl rfl ?_
    refine XS.ifnonnullNo X0.here hx rfl (hb hby d7_2) rfl ?_
    refine XS.aload X0.here hx rfl (hb hby d7_5) rfl h4 ?_
    refine XS.goto X0.here hx rfl (pc0 := 7) (pc' := 12) rfl (hb hby d7_7) (by decide) (by decide) ?_
    refine XS.astore X0.here hx rfl (hb hby d7_12) rfl h4 (l' := #[.val (.ref pq), .val (.long old), .second, .val (.ref a3), .val (.ref a4), .val .null, .val r4, .val r4, .unset]) (own_store rfl (Or.inl rfl) (own_cat h4) rfl) ?_
    refine XS.aloadN X0.here hx rfl (hb hby d7_14) rfl rfl ?_
    refine st2 _ ?_
    refine XS.ifnullNo X2.here hx rfl (hb hby d7_18) rfl ?_
    refine XS.aloadN X2.here hx rfl (hb hby d7_21) rfl rfl ?_
    show Steps p.tables e below (T2.setTop (mkF m 22 #[.val (.ref pq), .val (.long old), .second, .val (.ref a3), .val (.ref a4), .val .null, .val r4, .val r4, .unset] [(.ref pq)])) _
    refine st3 _ ?_
    refine XS.aload X3.here hx rfl (hb hby d7_25) rfl h4 ?_
    refine st4.trans ?_
    refine XS.ifYes X4.here hx rfl (pc0 := 30) (pc' := 37) rfl (hb hby d7_30) rfl ((if0 _ _).trans (teq hc30).1) (by decide) (by decide) ?_
    refine XS.iconst X4.here hx rfl (hb hby d7_37) ?_
    refine XS.istore X4.here hx rfl (hb hby d7_38) rfl (l' := #[.val (.ref pq), .val (.long old), .second, .val (.ref a3), .val (.ref a4), .val .null, .val r4, .val r4, .val (.int (0 : Int32))]) rfl ?_
    refine XS.iload X4.here hx rfl (hb hby d7_40) rfl ?_
    refine XS.ifNo X4.here hx rfl (hb hby d7_42) rfl ((if0 _ _).trans (teq (rfl : (0 : Int32) = (0 : Int32))).2) ?_
    refine XS.aloadN X4.here hx rfl (hb hby d7_45) rfl rfl ?_
    show Steps p.tables e below (T4.setTop (mkF m 46 #[.val (.ref pq), .val (.long old), .second, .val (.ref a3), .val (.ref a4), .val .null, .val r4, .val r4, .val (.int (0 : Int32))] [(.ref pq)])) _
    refine XS.lloadN X4.here hx rfl (hb hby d7_46) rfl ?_
    refine XS.aloadN X4.here hx rfl (hb hby d7_47) rfl rfl ?_
    refine XS.aload X4.here hx rfl (hb hby d7_48) rfl rfl ?_
    refine st5.trans ?_
    refine XS.aloadN X5.here hx rfl (hb hby d7_53) rfl rfl ?_
    refine XS.aload X5.here hx rfl (hb hby d7_54) rfl rfl ?_
    refine XS.ifnonnullNo X5.here hx rfl (hb hby d7_56) rfl ?_
    refine XS.iload X5.here hx rfl (hb hby d7_59) rfl ?_
    refine XS.ifYes X5.here hx rfl (pc0 := 61) (pc' := 69) rfl (hb hby d7_61) rfl ((if0 _ _).trans (teq (rfl : (0 : Int32) = (0 : Int32))).1) (by decide) (by decide) ?_
    show Steps p.tables e below (T5.setTop (mkF m 69 #[.val (.ref pq), .val (.long old), .second, .val (.ref a3), .val (.ref a4), .val .null, .val r4, .val r4, .val (.int (0 : Int32))] [(.ref pq)])) _
    refine XS.aconstNull X5.here hx rfl (hb hby d7_69) ?_
    refine st7 _ ?_
    refine XS.aloadN X7.here hx rfl (hb hby d7_73) rfl rfl ?_
    refine XS.aloadN X7.here hx rfl (hb hby d7_74) rfl rfl ?_
    refine XS.ifnullNo X7.here hx rfl (hb hby d7_75) rfl ?_
    refine XS.iconst X7.here hx rfl (hb hby d7_78) ?_
    refine XS.goto X7.here hx rfl (pc0 := 79) (pc' := 83) rfl (hb hby d7_79) (by decide) (by decide) ?_
    refine st8 _ ?_
    show Steps p.tables e below (T8.setTop (mkF m 86 #[.val (.ref pq), .val (.long old), .second, .val (.ref a3), .val (.ref a4), .val .null, .val r4, .val r4, .val (.int (0 : Int32))] [])) _
    exact X8.returnOut hx Bd.returns (hb hby d7_86) hr
  · show QRF Z pq (own_raise (fx, fs) (own_cand old (some (x, sq)))).1 (own_raise (fx, fs) (own_cand old (some (x, sq)))).2 .null (.int (1 : Int32)) h0 n0 _ T8.heap _
    rw [e8]
    exact ⟨rfl, N8, kp11, ⟨c12, c14, c16, c17, Fw8⟩⟩
set_option maxRecDepth 65536 in
set_option maxHeartbeats 40000000 in
theorem rm7_N_R0_N (l : Launch) (Z : State) (a0 : Array Value) (hw : ∀ d ∈ tables_1, d.before a0 Z = true) (ws : List Jvm.Cond) (old : Int64) (pq : Addr) (fx : Int64) (fs : Int64) (sn : Value) (r4 : Value) (o4 : Option Int64) (aj : Addr) (vj : Int64) (h0 : Heap) (n0 : Nat) (Z0 : n0 ≤ h0.size) (h4 : r4.isRef = true) (g0_pq : n0 ≤ pq) (PA : PdAt Z h0 pq fx fs (.ref aj) sn) (L12 : LR2 Z h0 .null .null none) (Lin : LR Z h0 r4 o4) (EJ : Exa Z h0 aj "java/lang/Long") (FJ : Fld Z h0 aj "java/lang/Long" "value" "J" (.long vj)) (hc30 : (if o4 = some vj then (1 : Int32) else 0) = (0 : Int32)) :
    MetFree l nm_7 (head1 (Jvm.Cond.code nm_7 prog_27_method_5_code 9 none :: ws) rr_2_0_0_32) (fun aa zU => aa = #[(.ref pq), (.long old), .null, .null, .null, r4] ∧ Z.Warmed39 zU.vm ∧ zU.heap = h0) (fun _ _ _ _ _ => True) (fun _ zU zo zU' => ∃ zv zL, zo = .returned zv ∧ QRF Z pq (own_raise (fx, fs) (own_cand old none)).1 (own_raise (fx, fs) (own_cand old none)).2 .null (.int (0 : Int32)) h0 n0 zv zU'.heap zL ∧ FrameEnd zU zo zU' zL rr_2_0_0_32.cells rr_2_0_0_32.slots) := by
  refine MetFree.of_bodySF (plainFor_of_name pn_com_example_keyed_work_queue_keyedworkqueue_Pending) hisR ?_
  intro p e s m args below meth c s₁ Bd hml0 hP hK
  obtain ⟨rfl, hZ, hh⟩ := hP
  have hx := Bd.exec
  have hby := Bd.bytes
  have hml : c.maxLocals = 9 := hml0
  have hown : s.vm.findClass "com/example/keyed_work_queue/keyedworkqueue/Pending" = some m.cls := findClass_of_methodNamed Bd.named
  have hnm := (name_of_methodNamed Bd.named Bd.method).1
  have X0 : Stand p l e rr_2_0_0_32 s m #[(.ref pq), (.long old), .null, .null, .null, r4] below meth c s₁ [] 0 0 := Stand.of_body Bd
  have e0 : s₁.heap = h0 := by rw [← hh, Bd.state]; rfl
  have N0 := Fr.nil n0
  have pre0 : ∀ t, Steps p.tables e below (s₁.setTop (mkF m 0 #[.val (.ref pq), .val (.long old), .second, .val .null, .val .null, .val .null, .val r4, .unset, .unset] [])) t → Steps p.tables e below (s₁.setTop (entryFrame m #[(.ref pq), (.long old), .null, .null, .null, r4] 9)) t := fun t k => castTop (ef_7_RJNNNG m pq old r4 h4) k
  obtain ⟨Epd1, Fapd1, Fbpd1, Fcpd1, Fdpd1⟩ := PA
  obtain ⟨T2, X2, e2, st2⟩ := getF X0 hx hZ hown (host := "") (Or.inl (ow hw 51 rfl)) Via.refl e0 Fcpd1 (g := (mkF m 15 #[.val (.ref pq), .val (.long old), .second, .val .null, .val .null, .val .null, .val r4, .val r4, .unset] [(.ref pq)])) rfl rfl (hb hby d7_15)
  obtain ⟨T3, X3, e3, st3⟩ := getF X2 hx hZ hown (host := "") (Or.inl (ow hw 51 rfl)) Via.refl e2 Fcpd1 (g := (mkF m 22 #[.val (.ref pq), .val (.long old), .second, .val .null, .val .null, .val .null, .val r4, .val r4, .unset] [(.ref pq)])) rfl rfl (hb hby d7_22)
  obtain ⟨cq4, kq4, q4a, q4b, q4c⟩ := isOf hZ e3 EJ
  obtain ⟨_, _, ⟨T4, L4, k4, n4⟩, -, X4, ⟨Lc4, hQ4, l4, y4, z4⟩, st4⟩ := X3.virtualBack hx (y := nm_14) (z := nm_14) hown (mvT hZ (ow hw 80 rfl)) (mvT hZ (ow hw 81 rfl)) (notFace_of_selects (args := #[]) (mvT hZ (ow hw 83 rfl))) (mvT hZ (ow hw 83 rfl)) (mvT hZ (ow hw 82 rfl)) (by decide) (backOf (W := 0) (rm14 l Z a0 hw [] aj vj r4 o4 h0 n0 Z0 FJ Lin) hZ (ow hw 84 rfl) (ow hw 25 rfl) (by decide) (by decide)) q4a q4c (g := (mkF m 27 #[.val (.ref pq), .val (.long old), .second, .val .null, .val .null, .val .null, .val r4, .val r4, .unset] [r4, (.ref aj)])) rfl (by rw [hml]; rfl) (Steps.refl _) (argsL := [r4]) (rest := []) (lenOf pd_9 rfl) rfl (by show 2 * 0 + _ ≤ _; exact Nat.le_of_eq rfl) (hb hby d7_27) (fun _ _ => ⟨rfl, e3, (by decide : 0 + 0 ≤ _), (by decide : 0 + 0 ≤ _)⟩)
  dsimp only [Pt.U, Pt.locs, Pt.cells, Pt.slots] at X4 l4 y4 z4 st4 hQ4
  subst l4 y4 z4
  obtain ⟨rfl, N4q, e4⟩ := hQ4
  have N4 := Fr.app N0 N4q
  obtain ⟨cq5, q5, q5'⟩ := Epd1.cell
  obtain ⟨_, _, ⟨T5, L5, k5, n5⟩, -, X5, ⟨Lc5, hQ5, l5, y5, z5⟩, st5⟩ := X4.privateBack hx (y := nm_8) hown (mvT hZ (ow hw 53 rfl)) (mvT hZ (ow hw 54 rfl)) (own_selP (mvT (args := #[]) hZ (ow hw 1 rfl)) (mvP hZ (ow hw 55 rfl) (args := #[])) (mvT hZ (ow hw 54 rfl)) (by decide)) (Cond.privateMethod_at (mvP hZ (ow hw 55 rfl) (args := #[]))) (mvT hZ (ow hw 56 rfl)) (by decide) (backOf (W := 0) (rm8 l Z a0 hw [] old .null .null none pq fx fs (.ref aj) sn h0 n0 Z0 g0_pq ⟨Epd1, Fapd1, Fbpd1, Fcpd1, Fdpd1⟩ L12) hZ (ow hw 56 rfl) (ow hw 2 rfl) (by decide) (by decide)) (g := (mkF m 50 #[.val (.ref pq), .val (.long old), .second, .val .null, .val .null, .val .null, .val r4, .val r4, .val (.int (0 : Int32))] [.null, .null, (.long old), (.ref pq)])) rfl (by rw [hml]; rfl) (Steps.refl _) (a := pq) (by rw [e4]; exact q5) q5' (argsL := [(.long old), .null, .null]) (rest := []) (lenOf pd_5 rfl) rfl (by show 2 * 0 + _ ≤ _; exact Nat.le_of_eq rfl) (hb hby d7_50) (fun _ _ => ⟨rfl, e4, (by decide : 0 + 0 ≤ _), (by decide : 0 + 0 ≤ _)⟩)
  dsimp only [Pt.U, Pt.locs, Pt.cells, Pt.slots] at X5 l5 y5 z5 st5 hQ5
  subst l5 y5 z5
  obtain ⟨rfl, N5q, K5, PB5⟩ := hQ5
  have N5 := Fr.app N4 N5q
  obtain ⟨Epd6, Fapd6, Fbpd6, Fcpd6, Fdpd6⟩ := PB5
  obtain ⟨T7, h7, X7, e7, W7, st7⟩ := putF X5 hx hZ hown (host := "") (Or.inl (ow hw 51 rfl)) Via.refl rfl Fcpd6 Epd6 (Or.inl (ow hw 52 rfl)) (ow hw 1 rfl) (ty := (.object "java/lang/Long")) (by decide) rfl rfl (g := (mkF m 70 #[.val (.ref pq), .val (.long old), .second, .val .null, .val .null, .val .null, .val r4, .val r4, .val (.int (0 : Int32))] [.null, (.ref pq)])) rfl rfl (hb hby d7_70)
  have Fw7 := Fcpd6.same W7
  have N7 := Fr.snoc X7 N5 g0_pq
  have c9 := Fdpd6.other W7 (Or.inr (slot_ne (Or.inl (ow hw 15 rfl)) (Or.inl (ow hw 52 rfl)) (by decide) (t := .boolean) (t' := (.object "java/lang/Long")) (by decide) (by decide)))
  have c10 := Epd6.wr W7
  obtain ⟨T8, h8, X8, e8, W8, st8⟩ := putFN X7 hx hZ hown (ow hw 14 rfl) Via.refl e7 c9 c10 (Or.inl (ow hw 15 rfl)) (ow hw 1 rfl) (ty := .boolean) (v' := (.int (0 : Int32))) (by decide) rfl rfl (g := (mkF m 83 #[.val (.ref pq), .val (.long old), .second, .val .null, .val .null, .val .null, .val r4, .val r4, .val (.int (0 : Int32))] [(.int (0 : Int32)), (.ref pq)])) rfl rfl (hb hby d7_83)
  have Fw8 := c9.same W8
  have N8 := Fr.snoc X8 N7 g0_pq
  have kp11 : Keep h0 h8 [pq] := ((((Keep.refl h0 [pq]).trans K5 (allS (Or.inl (List.mem_of_getElem? (i := 0) rfl)) all0)).wr W7 (Or.inl (List.mem_of_getElem? (i := 0) rfl))).wr W8 (Or.inl (List.mem_of_getElem? (i := 0) rfl)))
  have c12 := c10.wr W8
  have c13 := Fapd6.other W7 (Or.inr (slot_ne (Or.inl (ow hw 11 rfl)) (Or.inl (ow hw 52 rfl)) (by decide) (t := .long) (t' := (.object "java/lang/Long")) (by decide) (by decide)))
  have c14 := c13.other W8 (Or.inr (slot_ne (Or.inl (ow hw 11 rfl)) (Or.inl (ow hw 15 rfl)) (by decide) (t := .long) (t' := .boolean) (by decide) (by decide)))
  have c15 := Fbpd6.other W7 (Or.inr (slot_ne (Or.inl (ow hw 13 rfl)) (Or.inl (ow hw 52 rfl)) (by decide) (t := .long) (t' := (.object "java/lang/Long")) (by decide) (by decide)))
  have c16 := c15.other W8 (Or.inr (slot_ne (Or.inl (ow hw 13 rfl)) (Or.inl (ow hw 15 rfl)) (by decide) (t := .long) (t' := .boolean) (by decide) (by decide)))
  have c17 := Fw7.other W8 (Or.inr (slot_ne (Or.inl (ow hw 52 rfl)) (Or.inl (ow hw 15 rfl)) (by decide) (t := (.object "java/lang/Long")) (t' := .boolean) (by decide) (by decide)))
  obtain ⟨fsq, hr, hrun, hended, hW, hsame⟩ := X8.leave (v := none) (fun _ => rfl)
  refine ⟨_, _, pre0 _ ?_, hrun, hended, _, _, rfl, ?_, ⟨_, rfl⟩, hW, hsame.mono (by decide) (by decide)⟩
  · show Steps p.tables e below (s₁.setTop (mkF m 0 #[.val (.ref pq), .val (.long old), .second, .val .null, .val .null, .val .null, .val r4, .unset, .unset] [])) _
    refine XS.aload X0.here hx rfl (hb hby d7_0) rfl rfl ?_
    refine XS.ifnonnullNo X0.here hx rfl (hb hby d7_2) rfl ?_
    refine XS.aload X0.here hx rfl (hb hby d7_5) rfl h4 ?_
    refine XS.goto X0.here hx rfl (pc0 := 7) (pc' := 12) rfl (hb hby d7_7) (by decide) (by decide) ?_
    refine XS.astore X0.here hx rfl (hb hby d7_12) rfl h4 (l' := #[.val (.ref pq), .val (.long old), .second, .val .null, .val .null, .val .null, .val r4, .val r4, .unset]) (own_store rfl (Or.inl rfl) (own_cat h4) rfl) ?_
    refine XS.aloadN X0.here hx rfl (hb hby d7_14) rfl rfl ?_
    refine st2 _ ?_
    refine XS.ifnullNo X2.here hx rfl (hb hby d7_18) rfl ?_
    refine XS.aloadN X2.here hx rfl (hb hby d7_21) rfl rfl ?_
    show Steps p.tables e below (T2.setTop (mkF m 22 #[.val (.ref pq), .val (.long old), .second, .val .null, .val .null, .val .null, .val r4, .val r4, .unset] [(.ref pq)])) _
    refine st3 _ ?_
    refine XS.aload X3.here hx rfl (hb hby d7_25) rfl h4 ?_
    refine st4.trans ?_
    refine XS.ifYes X4.here hx rfl (pc0 := 30) (pc' := 37) rfl (hb hby d7_30) rfl ((if0 _ _).trans (teq hc30).1) (by decide) (by decide) ?_
    refine XS.iconst X4.here hx rfl (hb hby d7_37) ?_
    refine XS.istore X4.here hx rfl (hb hby d7_38) rfl (l' := #[.val (.ref pq), .val (.long old), .second, .val .null, .val .null, .val .null, .val r4, .val r4, .val (.int (0 : Int32))]) rfl ?_
    refine XS.iload X4.here hx rfl (hb hby d7_40) rfl ?_
    refine XS.ifNo X4.here hx rfl (hb hby d7_42) rfl ((if0 _ _).trans (teq (rfl : (0 : Int32) = (0 : Int32))).2) ?_
    refine XS.aloadN X4.here hx rfl (hb hby d7_45) rfl rfl ?_
    show Steps p.tables e below (T4.setTop (mkF m 46 #[.val (.ref pq), .val (.long old), .second, .val .null, .val .null, .val .null, .val r4, .val r4, .val (.int (0 : Int32))] [(.ref pq)])) _
    refine XS.lloadN X4.here hx rfl (hb hby d7_46) rfl ?_
    refine XS.aloadN X4.here hx rfl (hb hby d7_47) rfl rfl ?_
    refine XS.aload X4.here hx rfl (hb hby d7_48) rfl rfl ?_
    refine st5.trans ?_
    refine XS.aloadN X5.here hx rfl (hb hby d7_53) rfl rfl ?_
    refine XS.aload X5.here hx rfl (hb hby d7_54) rfl rfl ?_
    refine XS.ifnonnullNo X5.here hx rfl (hb hby d7_56) rfl ?_
    refine XS.iload X5.here hx rfl (hb hby d7_59) rfl ?_
    refine XS.ifYes X5.here hx rfl (pc0 := 61) (pc' := 69) rfl (hb hby d7_61) rfl ((if0 _ _).trans (teq (rfl : (0 : Int32) = (0 : Int32))).1) (by decide) (by decide) ?_
    show Steps p.tables e below (T5.setTop (mkF m 69 #[.val (.ref pq), .val (.long old), .second, .val .null, .val .null, .val .null, .val r4, .val r4, .val (.int (0 : Int32))] [(.ref pq)])) _
    refine XS.aconstNull X5.here hx rfl (hb hby d7_69) ?_
    refine st7 _ ?_
    refine XS.aloadN X7.here hx rfl (hb hby d7_73) rfl rfl ?_
    refine XS.aloadN X7.here hx rfl (hb hby d7_74) rfl rfl ?_
    refine XS.ifnullYes X7.here hx rfl (pc0 := 75) (pc' := 82) rfl (hb hby d7_75) rfl (by decide) (by decide) ?_
    refine XS.iconst X7.here hx rfl (hb hby d7_82) ?_
    refine st8 _ ?_
    show Steps p.tables e below (T8.setTop (mkF m 86 #[.val (.ref pq), .val (.long old), .second, .val .null, .val .null, .val .null, .val r4, .val r4, .val (.int (0 : Int32))] [])) _
    exact X8.returnOut hx Bd.returns (hb hby d7_86) hr
  · show QRF Z pq (own_raise (fx, fs) (own_cand old none)).1 (own_raise (fx, fs) (own_cand old none)).2 .null (.int (0 : Int32)) h0 n0 _ T8.heap _
    rw [e8]
    exact ⟨rfl, N8, kp11, ⟨c12, c14, c16, c17, Fw8⟩⟩
set_option maxRecDepth 65536 in
set_option maxHeartbeats 40000000 in
theorem rm7_N_R1_R (l : Launch) (Z : State) (a0 : Array Value) (hw : ∀ d ∈ tables_1, d.before a0 Z = true) (ws : List Jvm.Cond) (old : Int64) (pq : Addr) (fx : Int64) (fs : Int64) (sn : Value) (r4 : Value) (a3 : Addr) (a4 : Addr) (x : Int64) (sq : Int64) (o4 : Option Int64) (aj : Addr) (vj : Int64) (h0 : Heap) (n0 : Nat) (Z0 : n0 ≤ h0.size) (h4 : r4.isRef = true) (g0_pq : n0 ≤ pq) (PA : PdAt Z h0 pq fx fs (.ref aj) sn) (L12 : LR2 Z h0 (.ref a3) (.ref a4) (some (x, sq))) (Lin : LR Z h0 r4 o4) (EJ : Exa Z h0 aj "java/lang/Long") (FJ : Fld Z h0 aj "java/lang/Long" "value" "J" (.long vj)) (hc30 : ¬ ((if o4 = some vj then (1 : Int32) else 0) = (0 : Int32))) :
    MetFree l nm_7 (head1 (Jvm.Cond.code nm_7 prog_27_method_5_code 9 none :: ws) rr_2_0_0_32) (fun aa zU => aa = #[(.ref pq), (.long old), (.ref a3), (.ref a4), .null, r4] ∧ Z.Warmed39 zU.vm ∧ zU.heap = h0) (fun _ _ _ _ _ => True) (fun _ zU zo zU' => ∃ zv zL, zo = .returned zv ∧ QRF Z pq fx fs r4 (.int (1 : Int32)) h0 n0 zv zU'.heap zL ∧ FrameEnd zU zo zU' zL rr_2_0_0_32.cells rr_2_0_0_32.slots) := by
  refine MetFree.of_bodySF (plainFor_of_name pn_com_example_keyed_work_queue_keyedworkqueue_Pending) hisR ?_
  intro p e s m args below meth c s₁ Bd hml0 hP hK
  obtain ⟨rfl, hZ, hh⟩ := hP
  have hx := Bd.exec
  have hby := Bd.bytes
  have hml : c.maxLocals = 9 := hml0
  have hown : s.vm.findClass "com/example/keyed_work_queue/keyedworkqueue/Pending" = some m.cls := findClass_of_methodNamed Bd.named
  have hnm := (name_of_methodNamed Bd.named Bd.method).1
  have X0 : Stand p l e rr_2_0_0_32 s m #[(.ref pq), (.long old), (.ref a3), (.ref a4), .null, r4] below meth c s₁ [] 0 0 := Stand.of_body Bd
  have e0 : s₁.heap = h0 := by rw [← hh, Bd.state]; rfl
  have N0 := Fr.nil n0
  have pre0 : ∀ t, Steps p.tables e below (s₁.setTop (mkF m 0 #[.val (.ref pq), .val (.long old), .second, .val (.ref a3), .val (.ref a4), .val .null, .val r4, .unset, .unset] [])) t → Steps p.tables e below (s₁.setTop (entryFrame m #[(.ref pq), (.long old), (.ref a3), (.ref a4), .null, r4] 9)) t := fun t k => castTop (ef_7_RJRRNG m pq old a3 a4 r4 h4) k
  obtain ⟨Epd1, Fapd1, Fbpd1, Fcpd1, Fdpd1⟩ := PA
  obtain ⟨T2, X2, e2, st2⟩ := getF X0 hx hZ hown (host := "") (Or.inl (ow hw 51 rfl)) Via.refl e0 Fcpd1 (g := (mkF m 15 #[.val (.ref pq), .val (.long old), .second, .val (.ref a3), .val (.ref a4), .val .null, .val r4, .val r4, .unset] [(.ref pq)])) rfl rfl (hb hby d7_15)
  obtain ⟨T3, X3, e3, st3⟩ := getF X2 hx hZ hown (host := "") (Or.inl (ow hw 51 rfl)) Via.refl e2 Fcpd1 (g := (mkF m 22 #[.val (.ref pq), .val (.long old), .second, .val (.ref a3), .val (.ref a4), .val .null, .val r4, .val r4, .unset] [(.ref pq)])) rfl rfl (hb hby d7_22)
  obtain ⟨cq4, kq4, q4a, q4b, q4c⟩ := isOf hZ e3 EJ
  obtain ⟨_, _, ⟨T4, L4, k4, n4⟩, -, X4, ⟨Lc4, hQ4, l4, y4, z4⟩, st4⟩ := X3.virtualBack hx (y := nm_14) (z := nm_14) hown (mvT hZ (ow hw 80 rfl)) (mvT hZ (ow hw 81 rfl)) (notFace_of_selects (args := #[]) (mvT hZ (ow hw 83 rfl))) (mvT hZ (ow hw 83 rfl)) (mvT hZ (ow hw 82 rfl)) (by decide) (backOf (W := 0) (rm14 l Z a0 hw [] aj vj r4 o4 h0 n0 Z0 FJ Lin) hZ (ow hw 84 rfl) (ow hw 25 rfl) (by decide) (by decide)) q4a q4c (g := (mkF m 27 #[.val (.ref pq), .val (.long old), .second, .val (.ref a3), .val (.ref a4), .val .null, .val r4, .val r4, .unset] [r4, (.ref aj)])) rfl (by rw [hml]; rfl) (Steps.refl _) (argsL := [r4]) (rest := []) (lenOf pd_9 rfl) rfl (by show 2 * 0 + _ ≤ _; exact Nat.le_of_eq rfl) (hb hby d7_27) (fun _ _ => ⟨rfl, e3, (by decide : 0 + 0 ≤ _), (by decide : 0 + 0 ≤ _)⟩)
  dsimp only [Pt.U, Pt.locs, Pt.cells, Pt.slots] at X4 l4 y4 z4 st4 hQ4
  subst l4 y4 z4
  obtain ⟨rfl, N4q, e4⟩ := hQ4
  have N4 := Fr.app N0 N4q
  obtain ⟨T5, h5, X5, e5, W5, st5⟩ := putF X4 hx hZ hown (host := "") (Or.inl (ow hw 51 rfl)) Via.refl e4 Fcpd1 Epd1 (Or.inl (ow hw 52 rfl)) (ow hw 1 rfl) (ty := (.object "java/lang/Long")) (by decide) (own_nar _ h4) (own_fit _ h4) (g := (mkF m 70 #[.val (.ref pq), .val (.long old), .second, .val (.ref a3), .val (.ref a4), .val .null, .val r4, .val r4, .val (.int (1 : Int32))] [r4, (.ref pq)])) rfl rfl (hb hby d7_70)
  have Fw5 := Fcpd1.same W5
  have N5 := Fr.snoc X5 N4 g0_pq
  have c7 := Fdpd1.other W5 (Or.inr (slot_ne (Or.inl (ow hw 15 rfl)) (Or.inl (ow hw 52 rfl)) (by decide) (t := .boolean) (t' := (.object "java/lang/Long")) (by decide) (by decide)))
  have c8 := Epd1.wr W5
  obtain ⟨T6, h6, X6, e6, W6, st6⟩ := putFN X5 hx hZ hown (ow hw 14 rfl) Via.refl e5 c7 c8 (Or.inl (ow hw 15 rfl)) (ow hw 1 rfl) (ty := .boolean) (v' := (.int (1 : Int32))) (by decide) rfl rfl (g := (mkF m 83 #[.val (.ref pq), .val (.long old), .second, .val (.ref a3), .val (.ref a4), .val .null, .val r4, .val r4, .val (.int (1 : Int32))] [(.int (1 : Int32)), (.ref pq)])) rfl rfl (hb hby d7_83)
  have Fw6 := c7.same W6
  have N6 := Fr.snoc X6 N5 g0_pq
  have kp9 : Keep h0 h6 [pq] := (((Keep.refl h0 [pq]).wr W5 (Or.inl (List.mem_of_getElem? (i := 0) rfl))).wr W6 (Or.inl (List.mem_of_getElem? (i := 0) rfl)))
  have c10 := c8.wr W6
  have c11 := Fapd1.other W5 (Or.inr (slot_ne (Or.inl (ow hw 11 rfl)) (Or.inl (ow hw 52 rfl)) (by decide) (t := .long) (t' := (.object "java/lang/Long")) (by decide) (by decide)))
  have c12 := c11.other W6 (Or.inr (slot_ne (Or.inl (ow hw 11 rfl)) (Or.inl (ow hw 15 rfl)) (by decide) (t := .long) (t' := .boolean) (by decide) (by decide)))
  have c13 := Fbpd1.other W5 (Or.inr (slot_ne (Or.inl (ow hw 13 rfl)) (Or.inl (ow hw 52 rfl)) (by decide) (t := .long) (t' := (.object "java/lang/Long")) (by decide) (by decide)))
  have c14 := c13.other W6 (Or.inr (slot_ne (Or.inl (ow hw 13 rfl)) (Or.inl (ow hw 15 rfl)) (by decide) (t := .long) (t' := .boolean) (by decide) (by decide)))
  have c15 := Fw5.other W6 (Or.inr (slot_ne (Or.inl (ow hw 52 rfl)) (Or.inl (ow hw 15 rfl)) (by decide) (t := (.object "java/lang/Long")) (t' := .boolean) (by decide) (by decide)))
  obtain ⟨fsq, hr, hrun, hended, hW, hsame⟩ := X6.leave (v := none) (fun _ => rfl)
  refine ⟨_, _, pre0 _ ?_, hrun, hended, _, _, rfl, ?_, ⟨_, rfl⟩, hW, hsame.mono (by decide) (by decide)⟩
  · show Steps p.tables e below (s₁.setTop (mkF m 0 #[.val (.ref pq), .val (.long old), .second, .val (.ref a3), .val (.ref a4), .val .null, .val r4, .unset, .unset] [])) _
    refine XS.aload X0.here hx rfl (hb hby d7_0) rfl rfl ?_
    refine XS.ifnonnullNo X0.here hx rfl (hb hby d7_2) rfl ?_
    refine XS.aload X0.here hx rfl (hb hby d7_5) rfl h4 ?_
    refine XS.goto X0.here hx rfl (pc0 := 7) (pc' := 12) rfl (hb hby d7_7) (by decide) (by decide) ?_
    refine XS.astore X0.here hx rfl (hb hby d7_12) rfl h4 (l' := #[.val (.ref pq), .val (.long old), .second, .val (.ref a3), .val (.ref a4), .val .null, .val r4, .val r4, .unset]) (own_store rfl (Or.inl rfl) (own_cat h4) rfl) ?_
    refine XS.aloadN X0.here hx rfl (hb hby d7_14) rfl rfl ?_
    refine st2 _ ?_
    refine XS.ifnullNo X2.here hx rfl (hb hby d7_18) rfl ?_
    refine XS.aloadN X2.here hx rfl (hb hby d7_21) rfl rfl ?_
    show Steps p.tables e below (T2.setTop (mkF m 22 #[.val (.ref pq), .val (.long old), .second, .val (.ref a3), .val (.ref a4), .val .null, .val r4, .val r4, .unset] [(.ref pq)])) _
    refine st3 _ ?_
    refine XS.aload X3.here hx rfl (hb hby d7_25) rfl h4 ?_
    refine st4.trans ?_
    refine XS.ifNo X4.here hx rfl (hb hby d7_30) rfl ((if0 _ _).trans (feq hc30).1) ?_
    refine XS.iconst X4.here hx rfl (hb hby d7_33) ?_
    refine XS.goto X4.here hx rfl (pc0 := 34) (pc' := 38) rfl (hb hby d7_34) (by decide) (by decide) ?_
    refine XS.istore X4.here hx rfl (hb hby d7_38) rfl (l' := #[.val (.ref pq), .val (.long old), .second, .val (.ref a3), .val (.ref a4), .val .null, .val r4, .val r4, .val (.int (1 : Int32))]) rfl ?_
    refine XS.iload X4.here hx rfl (hb hby d7_40) rfl ?_
    refine XS.ifYes X4.here hx rfl (pc0 := 42) (pc' := 53) rfl (hb hby d7_42) rfl ((if0 _ _).trans (feq ((by decide) : ¬ ((1 : Int32) = (0 : Int32)))).2) (by decide) (by decide) ?_
    show Steps p.tables e below (T4.setTop (mkF m 53 #[.val (.ref pq), .val (.long old), .second, .val (.ref a3), .val (.ref a4), .val .null, .val r4, .val r4, .val (.int (1 : Int32))] [])) _
    refine XS.aloadN X4.here hx rfl (hb hby d7_53) rfl rfl ?_
    refine XS.aload X4.here hx rfl (hb hby d7_54) rfl rfl ?_
    refine XS.ifnonnullNo X4.here hx rfl (hb hby d7_56) rfl ?_
    refine XS.iload X4.here hx rfl (hb hby d7_59) rfl ?_
    refine XS.ifNo X4.here hx rfl (hb hby d7_61) rfl ((if0 _ _).trans (feq ((by decide) : ¬ ((1 : Int32) = (0 : Int32)))).1) ?_
    refine XS.aload X4.here hx rfl (hb hby d7_64) rfl h4 ?_
    refine XS.goto X4.here hx rfl (pc0 := 66) (pc' := 70) rfl (hb hby d7_66) (by decide) (by decide) ?_
    refine st5 _ ?_
    refine XS.aloadN X5.here hx rfl (hb hby d7_73) rfl rfl ?_
    show Steps p.tables e below (T5.setTop (mkF m 74 #[.val (.ref pq), .val (.long old), .second, .val (.ref a3), .val (.ref a4), .val .null, .val r4, .val r4, .val (.int (1 : Int32))] [(.ref pq)])) _
    refine XS.aloadN X5.here hx rfl (hb hby d7_74) rfl rfl ?_
    refine XS.ifnullNo X5.here hx rfl (hb hby d7_75) rfl ?_
    refine XS.iconst X5.here hx rfl (hb hby d7_78) ?_
    refine XS.goto X5.here hx rfl (pc0 := 79) (pc' := 83) rfl (hb hby d7_79) (by decide) (by decide) ?_
    refine st6 _ ?_
    show Steps p.tables e below (T6.setTop (mkF m 86 #[.val (.ref pq), .val (.long old), .second, .val (.ref a3), .val (.ref a4), .val .null, .val r4, .val r4, .val (.int (1 : Int32))] [])) _
    exact X6.returnOut hx Bd.returns (hb hby d7_86) hr
  · show QRF Z pq fx fs r4 (.int (1 : Int32)) h0 n0 _ T6.heap _
    rw [e6]
    exact ⟨rfl, N6, kp9, ⟨c10, c12, c14, c15, Fw6⟩⟩
set_option maxRecDepth 65536 in
set_option maxHeartbeats 40000000 in
theorem rm7_N_R1_N (l : Launch) (Z : State) (a0 : Array Value) (hw : ∀ d ∈ tables_1, d.before a0 Z = true) (ws : List Jvm.Cond) (old : Int64) (pq : Addr) (fx : Int64) (fs : Int64) (sn : Value) (r4 : Value) (o4 : Option Int64) (aj : Addr) (vj : Int64) (h0 : Heap) (n0 : Nat) (Z0 : n0 ≤ h0.size) (h4 : r4.isRef = true) (g0_pq : n0 ≤ pq) (PA : PdAt Z h0 pq fx fs (.ref aj) sn) (L12 : LR2 Z h0 .null .null none) (Lin : LR Z h0 r4 o4) (EJ : Exa Z h0 aj "java/lang/Long") (FJ : Fld Z h0 aj "java/lang/Long" "value" "J" (.long vj)) (hc30 : ¬ ((if o4 = some vj then (1 : Int32) else 0) = (0 : Int32))) :
    MetFree l nm_7 (head1 (Jvm.Cond.code nm_7 prog_27_method_5_code 9 none :: ws) rr_2_0_0_32) (fun aa zU => aa = #[(.ref pq), (.long old), .null, .null, .null, r4] ∧ Z.Warmed39 zU.vm ∧ zU.heap = h0) (fun _ _ _ _ _ => True) (fun _ zU zo zU' => ∃ zv zL, zo = .returned zv ∧ QRF Z pq fx fs r4 (.int (0 : Int32)) h0 n0 zv zU'.heap zL ∧ FrameEnd zU zo zU' zL rr_2_0_0_32.cells rr_2_0_0_32.slots) := by
  refine MetFree.of_bodySF (plainFor_of_name pn_com_example_keyed_work_queue_keyedworkqueue_Pending) hisR ?_
  intro p e s m args below meth c s₁ Bd hml0 hP hK
  obtain ⟨rfl, hZ, hh⟩ := hP
  have hx := Bd.exec
  have hby := Bd.bytes
  have hml : c.maxLocals = 9 := hml0
  have hown : s.vm.findClass "com/example/keyed_work_queue/keyedworkqueue/Pending" = some m.cls := findClass_of_methodNamed Bd.named
  have hnm := (name_of_methodNamed Bd.named Bd.method).1
  have X0 : Stand p l e rr_2_0_0_32 s m #[(.ref pq), (.long old), .null, .null, .null, r4] below meth c s₁ [] 0 0 := Stand.of_body Bd
  have e0 : s₁.heap = h0 := by rw [← hh, Bd.state]; rfl
  have N0 := Fr.nil n0
  have pre0 : ∀ t, Steps p.tables e below (s₁.setTop (mkF m 0 #[.val (.ref pq), .val (.long old), .second, .val .null, .val .null, .val .null, .val r4, .unset, .unset] [])) t → Steps p.tables e below (s₁.setTop (entryFrame m #[(.ref pq), (.long old), .null, .null, .null, r4] 9)) t := fun t k => castTop (ef_7_RJNNNG m pq old r4 h4) k
  obtain ⟨Epd1, Fapd1, Fbpd1, Fcpd1, Fdpd1⟩ := PA
  obtain ⟨T2, X2, e2, st2⟩ := getF X0 hx hZ hown (host := "") (Or.inl (ow hw 51 rfl)) Via.refl e0 Fcpd1 (g := (mkF m 15 #[.val (.ref pq), .val (.long old), .second, .val .null, .val .null, .val .null, .val r4, .val r4, .unset] [(.ref pq)])) rfl rfl (hb hby d7_15)
  obtain ⟨T3, X3, e3, st3⟩ := getF X2 hx hZ hown (host := "") (Or.inl (ow hw 51 rfl)) Via.refl e2 Fcpd1 (g := (mkF m 22 #[.val (.ref pq), .val (.long old), .second, .val .null, .val .null, .val .null, .val r4, .val r4, .unset] [(.ref pq)])) rfl rfl (hb hby d7_22)
  obtain ⟨cq4, kq4, q4a, q4b, q4c⟩ := isOf hZ e3 EJ
  obtain ⟨_, _, ⟨T4, L4, k4, n4⟩, -, X4, ⟨Lc4, hQ4, l4, y4, z4⟩, st4⟩ := X3.virtualBack hx (y := nm_14) (z := nm_14) hown (mvT hZ (ow hw 80 rfl)) (mvT hZ (ow hw 81 rfl)) (notFace_of_selects (args := #[]) (mvT hZ (ow hw 83 rfl))) (mvT hZ (ow hw 83 rfl)) (mvT hZ (ow hw 82 rfl)) (by decide) (backOf (W := 0) (rm14 l Z a0 hw [] aj vj r4 o4 h0 n0 Z0 FJ Lin) hZ (ow hw 84 rfl) (ow hw 25 rfl) (by decide) (by decide)) q4a q4c (g := (mkF m 27 #[.val (.ref pq), .val (.long old), .second, .val .null, .val .null, .val .null, .val r4, .val r4, .unset] [r4, (.ref aj)])) rfl (by rw [hml]; rfl) (Steps.refl _) (argsL := [r4]) (rest := []) (lenOf pd_9 rfl) rfl (by show 2 * 0 + _ ≤ _; exact Nat.le_of_eq rfl) (hb hby d7_27) (fun _ _ => ⟨rfl, e3, (by decide : 0 + 0 ≤ _), (by decide : 0 + 0 ≤ _)⟩)
  dsimp only [Pt.U, Pt.locs, Pt.cells, Pt.slots] at X4 l4 y4 z4 st4 hQ4
  subst l4 y4 z4
  obtain ⟨rfl, N4q, e4⟩ := hQ4
  have N4 := Fr.app N0 N4q
  obtain ⟨T5, h5, X5, e5, W5, st5⟩ := putF X4 hx hZ hown (host := "") (Or.inl (ow hw 51 rfl)) Via.refl e4 Fcpd1 Epd1 (Or.inl (ow hw 52 rfl)) (ow hw 1 rfl) (ty := (.object "java/lang/Long")) (by decide) (own_nar _ h4) (own_fit _ h4) (g := (mkF m 70 #[.val (.ref pq), .val (.long old), .second, .val .null, .val .null, .val .null, .val r4, .val r4, .val (.int (1 : Int32))] [r4, (.ref pq)])) rfl rfl (hb hby d7_70)
  have Fw5 := Fcpd1.same W5
  have N5 := Fr.snoc X5 N4 g0_pq
  have c7 := Fdpd1.other W5 (Or.inr (slot_ne (Or.inl (ow hw 15 rfl)) (Or.inl (ow hw 52 rfl)) (by decide) (t := .boolean) (t' := (.object "java/lang/Long")) (by decide) (by decide)))
  have c8 := Epd1.wr W5
  obtain ⟨T6, h6, X6, e6, W6, st6⟩ := putFN X5 hx hZ hown (ow hw 14 rfl) Via.refl e5 c7 c8 (Or.inl (ow hw 15 rfl)) (ow hw 1 rfl) (ty := .boolean) (v' := (.int (0 : Int32))) (by decide) rfl rfl (g := (mkF m 83 #[.val (.ref pq), .val (.long old), .second, .val .null, .val .null, .val .null, .val r4, .val r4, .val (.int (1 : Int32))] [(.int (0 : Int32)), (.ref pq)])) rfl rfl (hb hby d7_83)
  have Fw6 := c7.same W6
  have N6 := Fr.snoc X6 N5 g0_pq
  have kp9 : Keep h0 h6 [pq] := (((Keep.refl h0 [pq]).wr W5 (Or.inl (List.mem_of_getElem? (i := 0) rfl))).wr W6 (Or.inl (List.mem_of_getElem? (i := 0) rfl)))
  have c10 := c8.wr W6
  have c11 := Fapd1.other W5 (Or.inr (slot_ne (Or.inl (ow hw 11 rfl)) (Or.inl (ow hw 52 rfl)) (by decide) (t := .long) (t' := (.object "java/lang/Long")) (by decide) (by decide)))
  have c12 := c11.other W6 (Or.inr (slot_ne (Or.inl (ow hw 11 rfl)) (Or.inl (ow hw 15 rfl)) (by decide) (t := .long) (t' := .boolean) (by decide) (by decide)))
  have c13 := Fbpd1.other W5 (Or.inr (slot_ne (Or.inl (ow hw 13 rfl)) (Or.inl (ow hw 52 rfl)) (by decide) (t := .long) (t' := (.object "java/lang/Long")) (by decide) (by decide)))
  have c14 := c13.other W6 (Or.inr (slot_ne (Or.inl (ow hw 13 rfl)) (Or.inl (ow hw 15 rfl)) (by decide) (t := .long) (t' := .boolean) (by decide) (by decide)))
  have c15 := Fw5.other W6 (Or.inr (slot_ne (Or.inl (ow hw 52 rfl)) (Or.inl (ow hw 15 rfl)) (by decide) (t := (.object "java/lang/Long")) (t' := .boolean) (by decide) (by decide)))
  obtain ⟨fsq, hr, hrun, hended, hW, hsame⟩ := X6.leave (v := none) (fun _ => rfl)
  refine ⟨_, _, pre0 _ ?_, hrun, hended, _, _, rfl, ?_, ⟨_, rfl⟩, hW, hsame.mono (by decide) (by decide)⟩
  · show Steps p.tables e below (s₁.setTop (mkF m 0 #[.val (.ref pq), .val (.long old), .second, .val .null, .val .null, .val .null, .val r4, .unset, .unset] [])) _
    refine XS.aload X0.here hx rfl (hb hby d7_0) rfl rfl ?_
    refine XS.ifnonnullNo X0.here hx rfl (hb hby d7_2) rfl ?_
    refine XS.aload X0.here hx rfl (hb hby d7_5) rfl h4 ?_
    refine XS.goto X0.here hx rfl (pc0 := 7) (pc' := 12) rfl (hb hby d7_7) (by decide) (by decide) ?_
    refine XS.astore X0.here hx rfl (hb hby d7_12) rfl h4 (l' := #[.val (.ref pq), .val (.long old), .second, .val .null, .val .null, .val .null, .val r4, .val r4, .unset]) (own_store rfl (Or.inl rfl) (own_cat h4) rfl) ?_
    refine XS.aloadN X0.here hx rfl (hb hby d7_14) rfl rfl ?_
    refine st2 _ ?_
    refine XS.ifnullNo X2.here hx rfl (hb hby d7_18) rfl ?_
    refine XS.aloadN X2.here hx rfl (hb hby d7_21) rfl rfl ?_
    show Steps p.tables e below (T2.setTop (mkF m 22 #[.val (.ref pq), .val (.long old), .second, .val .null, .val .null, .val .null, .val r4, .val r4, .unset] [(.ref pq)])) _
    refine st3 _ ?_
    refine XS.aload X3.here hx rfl (hb hby d7_25) rfl h4 ?_
    refine st4.trans ?_
    refine XS.ifNo X4.here hx rfl (hb hby d7_30) rfl ((if0 _ _).trans (feq hc30).1) ?_
    refine XS.iconst X4.here hx rfl (hb hby d7_33) ?_
    refine XS.goto X4.here hx rfl (pc0 := 34) (pc' := 38) rfl (hb hby d7_34) (by decide) (by decide) ?_
    refine XS.istore X4.here hx rfl (hb hby d7_38) rfl (l' := #[.val (.ref pq), .val (.long old), .second, .val .null, .val .null, .val .null, .val r4, .val r4, .val (.int (1 : Int32))]) rfl ?_
    refine XS.iload X4.here hx rfl (hb hby d7_40) rfl ?_
    refine XS.ifYes X4.here hx rfl (pc0 := 42) (pc' := 53) rfl (hb hby d7_42) rfl ((if0 _ _).trans (feq ((by decide) : ¬ ((1 : Int32) = (0 : Int32)))).2) (by decide) (by decide) ?_
    show Steps p.tables e below (T4.setTop (mkF m 53 #[.val (.ref pq), .val (.long old), .second, .val .null, .val .null, .val .null, .val r4, .val r4, .val (.int (1 : Int32))] [])) _
    refine XS.aloadN X4.here hx rfl (hb hby d7_53) rfl rfl ?_
    refine XS.aload X4.here hx rfl (hb hby d7_54) rfl rfl ?_
    refine XS.ifnonnullNo X4.here hx rfl (hb hby d7_56) rfl ?_
    refine XS.iload X4.here hx rfl (hb hby d7_59) rfl ?_
    refine XS.ifNo X4.here hx rfl (hb hby d7_61) rfl ((if0 _ _).trans (feq ((by decide) : ¬ ((1 : Int32) = (0 : Int32)))).1) ?_
    refine XS.aload X4.here hx rfl (hb hby d7_64) rfl h4 ?_
    refine XS.goto X4.here hx rfl (pc0 := 66) (pc' := 70) rfl (hb hby d7_66) (by decide) (by decide) ?_
    refine st5 _ ?_
    refine XS.aloadN X5.here hx rfl (hb hby d7_73) rfl rfl ?_
    show Steps p.tables e below (T5.setTop (mkF m 74 #[.val (.ref pq), .val (.long old), .second, .val .null, .val .null, .val .null, .val r4, .val r4, .val (.int (1 : Int32))] [(.ref pq)])) _
    refine XS.aloadN X5.here hx rfl (hb hby d7_74) rfl rfl ?_
    refine XS.ifnullYes X5.here hx rfl (pc0 := 75) (pc' := 82) rfl (hb hby d7_75) rfl (by decide) (by decide) ?_
    refine XS.iconst X5.here hx rfl (hb hby d7_82) ?_
    refine st6 _ ?_
    show Steps p.tables e below (T6.setTop (mkF m 86 #[.val (.ref pq), .val (.long old), .second, .val .null, .val .null, .val .null, .val r4, .val r4, .val (.int (1 : Int32))] [])) _
    exact X6.returnOut hx Bd.returns (hb hby d7_86) hr
  · show QRF Z pq fx fs r4 (.int (0 : Int32)) h0 n0 _ T6.heap _
    rw [e6]
    exact ⟨rfl, N6, kp9, ⟨c10, c12, c14, c15, Fw6⟩⟩
theorem rm7 (l : Launch) (Z : State) (a0 : Array Value) (hw : ∀ d ∈ tables_1, d.before a0 Z = true) (ws : List Jvm.Cond) (old : Int64) (pq : Addr) (fx : Int64) (fs : Int64) (jr : Value) (sn : Value) (r1 : Value) (r2 : Value) (r3 : Value) (r4 : Value) (o1 : Option (Int64 × Int64)) (o3 : Option Int64) (o4 : Option Int64) (oj : Option Int64) (h0 : Heap) (n0 : Nat) (Z0 : n0 ≤ h0.size) (g0_pq : n0 ≤ pq) (PA : PdAt Z h0 pq fx fs jr sn) (L12 : LR2 Z h0 r1 r2 o1) (L3 : LR Z h0 r3 o3) (L4 : LR Z h0 r4 o4) (LJ : LR Z h0 jr oj) :
    MetFree l nm_7 (head1 (Jvm.Cond.code nm_7 prog_27_method_5_code 9 none :: ws) rr_2_0_0_32) (fun aa zU => aa = #[(.ref pq), (.long old), r1, r2, r3, r4] ∧ Z.Warmed39 zU.vm ∧ zU.heap = h0) (fun _ _ _ _ _ => True) (fun _ zU zo zU' => ∃ zv zL, zo = .returned zv ∧ QRF Z pq (own_fl oj (own_or o3 o4) (fx, fs) (own_cand old o1)).1 (own_fl oj (own_or o3 o4) (fx, fs) (own_cand old o1)).2 (own_jr oj o3 o4 r3 r4) (own_sn o1) h0 n0 zv zU'.heap zL ∧ FrameEnd zU zo zU' zL rr_2_0_0_32.cells rr_2_0_0_32.slots) := by
  have h4 := L4.ref
  rcases L3 with ⟨rfl, rfl⟩ | ⟨a5, v5, rfl, rfl, E5, F5⟩ <;> rcases LJ with ⟨rfl, rfl⟩ | ⟨aj, vj, rfl, rfl, EJ, FJ⟩ <;> rcases L12 with ⟨rfl, rfl, rfl⟩ | ⟨a3, a4, x, sq, rfl, rfl, rfl, E3, F3, E4, F4⟩
  · exact rm7_N_N_N l Z a0 hw ws old pq fx fs sn r4 o4 h0 n0 Z0 h4 g0_pq PA (Or.inl ⟨rfl, rfl, rfl⟩) L4
  · exact rm7_N_N_R l Z a0 hw ws old pq fx fs sn r4 a3 a4 x sq o4 h0 n0 Z0 h4 g0_pq PA (Or.inr ⟨a3, a4, x, sq, rfl, rfl, rfl, E3, F3, E4, F4⟩) L4
  · by_cases q : o4 = some vj
    · have e1 : own_same (some vj) (own_or none o4) = true := decide_eq_true q
      simp only [own_fl, own_jr, e1, Option.isSome, Bool.or_true, Bool.or_false, if_true, own_rr, Bool.true_or, Bool.false_or, Bool.false_eq_true, if_false, own_sn]
      exact rm7_N_R1_N l Z a0 hw ws old pq fx fs sn r4 o4 aj vj h0 n0 Z0 h4 g0_pq PA (Or.inl ⟨rfl, rfl, rfl⟩) L4 EJ FJ (by rw [if_pos q]; decide)
    · have e1 : own_same (some vj) (own_or none o4) = false := decide_eq_false q
      simp only [own_fl, own_jr, e1, Option.isSome, Bool.or_true, Bool.or_false, if_true, own_rr, Bool.true_or, Bool.false_or, Bool.false_eq_true, if_false, own_sn]
      exact rm7_N_R0_N l Z a0 hw ws old pq fx fs sn r4 o4 aj vj h0 n0 Z0 h4 g0_pq PA (Or.inl ⟨rfl, rfl, rfl⟩) L4 EJ FJ (if_neg q)
  · by_cases q : o4 = some vj
    · have e1 : own_same (some vj) (own_or none o4) = true := decide_eq_true q
      simp only [own_fl, own_jr, e1, Option.isSome, Bool.or_true, Bool.or_false, if_true, own_rr, Bool.true_or, Bool.false_or, Bool.false_eq_true, if_false, own_sn]
      exact rm7_N_R1_R l Z a0 hw ws old pq fx fs sn r4 a3 a4 x sq o4 aj vj h0 n0 Z0 h4 g0_pq PA (Or.inr ⟨a3, a4, x, sq, rfl, rfl, rfl, E3, F3, E4, F4⟩) L4 EJ FJ (by rw [if_pos q]; decide)
    · have e1 : own_same (some vj) (own_or none o4) = false := decide_eq_false q
      simp only [own_fl, own_jr, e1, Option.isSome, Bool.or_true, Bool.or_false, if_true, own_rr, Bool.true_or, Bool.false_or, Bool.false_eq_true, if_false, own_sn]
      exact rm7_N_R0_R l Z a0 hw ws old pq fx fs sn r4 a3 a4 x sq o4 aj vj h0 n0 Z0 h4 g0_pq PA (Or.inr ⟨a3, a4, x, sq, rfl, rfl, rfl, E3, F3, E4, F4⟩) L4 EJ FJ (if_neg q)
  · exact rm7_R_N_N l Z a0 hw ws old pq fx fs sn r4 a5 v5 h0 n0 Z0 h4 g0_pq PA (Or.inl ⟨rfl, rfl, rfl⟩) (Or.inr ⟨a5, v5, rfl, rfl, E5, F5⟩)
  · exact rm7_R_N_R l Z a0 hw ws old pq fx fs sn r4 a3 a4 x sq a5 v5 h0 n0 Z0 h4 g0_pq PA (Or.inr ⟨a3, a4, x, sq, rfl, rfl, rfl, E3, F3, E4, F4⟩) (Or.inr ⟨a5, v5, rfl, rfl, E5, F5⟩)
  · by_cases q : some v5 = some vj
    · have e1 : own_same (some vj) (own_or (some v5) o4) = true := decide_eq_true q
      simp only [own_fl, own_jr, e1, Option.isSome, Bool.or_true, Bool.or_false, if_true, own_rr, Bool.true_or, Bool.false_or, Bool.false_eq_true, if_false, own_sn]
      exact rm7_R_R1_N l Z a0 hw ws old pq fx fs sn r4 a5 v5 aj vj h0 n0 Z0 h4 g0_pq PA (Or.inl ⟨rfl, rfl, rfl⟩) (Or.inr ⟨a5, v5, rfl, rfl, E5, F5⟩) EJ FJ (by rw [if_pos q]; decide)
    · have e1 : own_same (some vj) (own_or (some v5) o4) = false := decide_eq_false q
      simp only [own_fl, own_jr, e1, Option.isSome, Bool.or_true, Bool.or_false, if_true, own_rr, Bool.true_or, Bool.false_or, Bool.false_eq_true, if_false, own_sn]
      exact rm7_R_R0_N l Z a0 hw ws old pq fx fs sn r4 a5 v5 aj vj h0 n0 Z0 h4 g0_pq PA (Or.inl ⟨rfl, rfl, rfl⟩) (Or.inr ⟨a5, v5, rfl, rfl, E5, F5⟩) EJ FJ (if_neg q)
  · by_cases q : some v5 = some vj
    · have e1 : own_same (some vj) (own_or (some v5) o4) = true := decide_eq_true q
      simp only [own_fl, own_jr, e1, Option.isSome, Bool.or_true, Bool.or_false, if_true, own_rr, Bool.true_or, Bool.false_or, Bool.false_eq_true, if_false, own_sn]
      exact rm7_R_R1_R l Z a0 hw ws old pq fx fs sn r4 a3 a4 x sq a5 v5 aj vj h0 n0 Z0 h4 g0_pq PA (Or.inr ⟨a3, a4, x, sq, rfl, rfl, rfl, E3, F3, E4, F4⟩) (Or.inr ⟨a5, v5, rfl, rfl, E5, F5⟩) EJ FJ (by rw [if_pos q]; decide)
    · have e1 : own_same (some vj) (own_or (some v5) o4) = false := decide_eq_false q
      simp only [own_fl, own_jr, e1, Option.isSome, Bool.or_true, Bool.or_false, if_true, own_rr, Bool.true_or, Bool.false_or, Bool.false_eq_true, if_false, own_sn]
      exact rm7_R_R0_R l Z a0 hw ws old pq fx fs sn r4 a3 a4 x sq a5 v5 aj vj h0 n0 Z0 h4 g0_pq PA (Or.inr ⟨a3, a4, x, sq, rfl, rfl, rfl, E3, F3, E4, F4⟩) (Or.inr ⟨a5, v5, rfl, rfl, E5, F5⟩) EJ FJ (if_neg q)
abbrev rr_4_4_4_53 : Room := { frames := 4, cells := 4, slots := 4, locals := 53 }
def own_v2 (o : Option Int64) : Int64 := match o with | some _ => (1 : Int64) | none => (0 : Int64)
def own_v3 (o : Option Int64) : Int64 := match o with | some v => v | none => (0 : Int64)
/-- the Pending and the four longs say the same -/
def Inv (Z : State) (h : Heap) (pq arr : Addr) (k : ClassId) (fx fs : Int64) (oj : Option Int64) : Prop := ∃ jr sn, PdAt Z h pq fx fs jr sn ∧ LR Z h jr oj ∧ Arv Z h arr k .long (4 : Int32) [(.long fx), (.long fs), (.long (own_v2 oj)), (.long (own_v3 oj))] (.long (0 : Int64))
def QS (Z : State) (pq arr : Addr) (k : ClassId) (h0 : Heap) (n0 : Nat) (v : Option Value) (h : Heap) (L : List Loc) : Prop := v = some (.int (1 : Int32)) ∧ Fr n0 L ∧ Keep h0 h [pq, arr] ∧ ∃ fx fs oj, Inv Z h pq arr k fx fs oj
theorem LR_new {Z : State} {h : Heap} {r3 r4 : Value} {o3 o4 oj : Option Int64} (L3 : LR Z h r3 o3) (L4 : LR Z h r4 o4) : LR Z h (own_jr oj o3 o4 r3 r4) (own_jo oj o3 o4) := by
  unfold own_jr own_jo
  split
  · cases o3 with
    | none => exact L4
    | some v => exact L3
  · exact Or.inl ⟨rfl, rfl⟩
theorem own_pe {Z : State} {h : Heap} {pq arr : Addr} {k : ClassId} {ty : FieldType} {n : Int32} {vs : List Value} {d : Value} {a0 : Array Value} {kk : Nat} {C : String} (E : Exa Z h pq C) (V : Arv Z h arr k ty n vs d) (wi : (Jvm.Cond.instantiable C kk).before a0 Z = true) : pq ≠ arr := by
  obtain ⟨cl, Ar, -⟩ := V
  exact ne_arr E wi Ar
theorem d3_0 : decode method_4_code 0 = .ok (.iload 9, 2) := by decide +kernel
theorem d3_2 : decode method_4_code 2 = .ok (.iconst 1, 1) := by decide +kernel
theorem d3_3 : decode method_4_code 3 = .ok (.iand, 1) := by decide +kernel
theorem d3_4 : decode method_4_code 4 = .ok (.ifCond .eq 7, 3) := by decide +kernel
theorem d3_11 : decode method_4_code 11 = .ok (.iconst 0, 1) := by decide +kernel
theorem d3_12 : decode method_4_code 12 = .ok (.istore 10, 2) := by decide +kernel
theorem d3_14 : decode method_4_code 14 = .ok (.iload 9, 2) := by decide +kernel
theorem d3_16 : decode method_4_code 16 = .ok (.iconst 2, 1) := by decide +kernel
theorem d3_17 : decode method_4_code 17 = .ok (.iand, 1) := by decide +kernel
theorem d3_18 : decode method_4_code 18 = .ok (.ifCond .eq 7, 3) := by decide +kernel
theorem d3_25 : decode method_4_code 25 = .ok (.iconst 0, 1) := by decide +kernel
theorem d3_26 : decode method_4_code 26 = .ok (.istore 11, 2) := by decide +kernel
theorem d3_28 : decode method_4_code 28 = .ok (.iload 9, 2) := by decide +kernel
theorem d3_30 : decode method_4_code 30 = .ok (.iconst 4, 1) := by decide +kernel
theorem d3_31 : decode method_4_code 31 = .ok (.iand, 1) := by decide +kernel
theorem d3_32 : decode method_4_code 32 = .ok (.ifCond .eq 7, 3) := by decide +kernel
theorem d3_39 : decode method_4_code 39 = .ok (.iconst 0, 1) := by decide +kernel
theorem d3_40 : decode method_4_code 40 = .ok (.istore 12, 2) := by decide +kernel
theorem d3_42 : decode method_4_code 42 = .ok (.ldc2_w 20, 3) := by decide +kernel
theorem d3_45 : decode method_4_code 45 = .ok (.iload 8, 2) := by decide +kernel
theorem d3_47 : decode method_4_code 47 = .ok (.iconst 3, 1) := by decide +kernel
theorem d3_48 : decode method_4_code 48 = .ok (.iand, 1) := by decide +kernel
theorem d3_49 : decode method_4_code 49 = .ok (.i2l, 1) := by decide +kernel
theorem d3_50 : decode method_4_code 50 = .ok (.ladd, 1) := by decide +kernel
theorem d3_51 : decode method_4_code 51 = .ok (.lstore 13, 2) := by decide +kernel
theorem d3_53 : decode method_4_code 53 = .ok (.ldc2_w 20, 3) := by decide +kernel
theorem d3_56 : decode method_4_code 56 = .ok (.iload 8, 2) := by decide +kernel
theorem d3_58 : decode method_4_code 58 = .ok (.iconst 2, 1) := by decide +kernel
theorem d3_59 : decode method_4_code 59 = .ok (.ishr, 1) := by decide +kernel
theorem d3_60 : decode method_4_code 60 = .ok (.iconst 3, 1) := by decide +kernel
theorem d3_61 : decode method_4_code 61 = .ok (.iand, 1) := by decide +kernel
theorem d3_62 : decode method_4_code 62 = .ok (.i2l, 1) := by decide +kernel
theorem d3_63 : decode method_4_code 63 = .ok (.ladd, 1) := by decide +kernel
theorem d3_64 : decode method_4_code 64 = .ok (.lstore 15, 2) := by decide +kernel
theorem d3_66 : decode method_4_code 66 = .ok (.iload 10, 2) := by decide +kernel
theorem d3_68 : decode method_4_code 68 = .ok (.ifCond .eq 7, 3) := by decide +kernel
theorem d3_75 : decode method_4_code 75 = .ok (.lload 4, 2) := by decide +kernel
theorem pd_2 : parseMethodDescriptor "(J)Ljava/lang/Long;" = some ⟨[.long], some (.object "java/lang/Long")⟩ := by decide +kernel
theorem d3_77 : decode method_4_code 77 = .ok (.invokestatic 22, 3) := by decide +kernel
theorem d3_80 : decode method_4_code 80 = .ok (.astore 17, 2) := by decide +kernel
theorem d3_82 : decode method_4_code 82 = .ok (.iload 10, 2) := by decide +kernel
theorem d3_84 : decode method_4_code 84 = .ok (.ifCond .eq 7, 3) := by decide +kernel
theorem d3_91 : decode method_4_code 91 = .ok (.lload 6, 2) := by decide +kernel
theorem d3_93 : decode method_4_code 93 = .ok (.invokestatic 22, 3) := by decide +kernel
theorem d3_96 : decode method_4_code 96 = .ok (.astore 18, 2) := by decide +kernel
theorem d3_98 : decode method_4_code 98 = .ok (.iload 11, 2) := by decide +kernel
theorem d3_100 : decode method_4_code 100 = .ok (.ifCond .eq 7, 3) := by decide +kernel
theorem d3_107 : decode method_4_code 107 = .ok (.lload 13, 2) := by decide +kernel
theorem d3_109 : decode method_4_code 109 = .ok (.invokestatic 22, 3) := by decide +kernel
theorem d3_112 : decode method_4_code 112 = .ok (.astore 19, 2) := by decide +kernel
theorem d3_114 : decode method_4_code 114 = .ok (.iload 12, 2) := by decide +kernel
theorem d3_116 : decode method_4_code 116 = .ok (.ifCond .eq 7, 3) := by decide +kernel
theorem d3_123 : decode method_4_code 123 = .ok (.lload 15, 2) := by decide +kernel
theorem d3_125 : decode method_4_code 125 = .ok (.invokestatic 22, 3) := by decide +kernel
theorem d3_128 : decode method_4_code 128 = .ok (.astore 20, 2) := by decide +kernel
theorem d3_130 : decode method_4_code 130 = .ok (.aload_n 0, 1) := by decide +kernel
theorem d3_131 : decode method_4_code 131 = .ok (.lload_n 2, 1) := by decide +kernel
theorem d3_132 : decode method_4_code 132 = .ok (.aload 17, 2) := by decide +kernel
theorem d3_134 : decode method_4_code 134 = .ok (.aload 18, 2) := by decide +kernel
theorem d3_136 : decode method_4_code 136 = .ok (.aload 19, 2) := by decide +kernel
theorem d3_138 : decode method_4_code 138 = .ok (.aload 20, 2) := by decide +kernel
theorem pd_4 : parseMethodDescriptor "(JLjava/lang/Long;Ljava/lang/Long;Ljava/lang/Long;Ljava/lang/Long;)V" = some ⟨[.long, (.object "java/lang/Long"), (.object "java/lang/Long"), (.object "java/lang/Long"), (.object "java/lang/Long")], none⟩ := by decide +kernel
theorem d3_140 : decode method_4_code 140 = .ok (.invokevirtual 26, 3) := by decide +kernel
set_option maxRecDepth 65536 in
set_option maxHeartbeats 40000000 in
theorem s1_000 {p : Program} {l : Launch} {e : Env} {s : State} {m : MethodId} {args : Array Value} {below : List Frame} {meth : Method} {c : Code} {T0 : State} {Z : State} {a0 : Array Value} {h0 : Heap} {n0 : Nat} (pq : Addr) (arr : Addr) (k : ClassId) (cb : Addr) (old : Int64) (x : Int64) (s' : Int64) (ids : Int32) (fl : Int32) (fx : Int64) (fs : Int64) (jr : Value) (sn : Value) (oj : Option Int64) (v2 : Int64) (v3 : Int64) (jj : Int64) (tt : Int64)
    (X0 : Stand p l e rr_4_4_4_53 s m args below meth c T0 [] 0 0) (hx : p.tables.exec = Jvm.exec) (hZ : Z.Warmed39 s.vm) (hw : ∀ d ∈ tables_1, d.before a0 Z = true) (hby : c.code = method_4_code) (hml : c.maxLocals = 29) (hown : s.vm.findClass "com/example/keyed_work_queue/keyedworkqueue/PendingFoundPinLaw" = some m.cls) (e0 : T0.heap = h0) (Z0 : n0 ≤ h0.size) (N0 : Fr n0 []) (hjj : ((1000 : Int64) + ((ids &&& (3 : Int32)).toInt64)) = jj) (htt : ((1000 : Int64) + (((ids >>> ((2 : Int32) &&& 31)) &&& (3 : Int32)).toInt64)) = tt) (g0_pq : n0 ≤ pq) (g0_arr : n0 ≤ arr) (PA : PdAt Z h0 pq fx fs jr sn) (O0 : Old Z n0 h0) (SC : Sta Z Z.heap "java/lang/Long$LongCache" "cache" "[Ljava/lang/Long;" (.ref cb)) (LC : LCache Z cb) (LJ : LR Z h0 jr oj) (VA : Arv Z h0 arr k .long (4 : Int32) [(.long fx), (.long fs), (.long v2), (.long v3)] (.long (0 : Int64))) (hc4 : (fl &&& (1 : Int32)) = (0 : Int32)) (hc18 : (fl &&& (2 : Int32)) = (0 : Int32)) (hc32 : (fl &&& (4 : Int32)) = (0 : Int32)) :
    ∃ (T' : State) (h' : Heap) (L' : List Loc) (jr' r1 r2 r3 r4 : Value), Stand p l e rr_4_4_4_53 s m args below meth c T' L' 4 4 ∧ T'.heap = h' ∧ Fr n0 L' ∧ (PdAt Z h' pq (own_fl oj (own_or (some jj) (some tt)) (fx, fs) (own_cand old (some (x, s')))).1 (own_fl oj (own_or (some jj) (some tt)) (fx, fs) (own_cand old (some (x, s')))).2 jr' (.int (1 : Int32)) ∧ LR Z h' jr' (own_jo oj (some jj) (some tt)) ∧ Arv Z h' arr k .long (4 : Int32) [(.long fx), (.long fs), (.long v2), (.long v3)] (.long (0 : Int64)) ∧ Old Z n0 h' ∧ Keep h0 h' [pq]) ∧
      ∀ target, Steps p.tables e below (T'.setTop (mkF m 143 #[.val (.ref pq), .val (.ref arr), .val (.long old), .second, .val (.long x), .second, .val (.long s'), .second, .val (.int ids), .val (.int fl), .val (.int (0 : Int32)), .val (.int (0 : Int32)), .val (.int (0 : Int32)), .val (.long jj), .second, .val (.long tt), .second, .val r1, .val r2, .val r3, .val r4, .unset, .unset, .unset, .unset, .unset, .unset, .unset, .unset] [])) target → Steps p.tables e below (T0.setTop (mkF m 0 #[.val (.ref pq), .val (.ref arr), .val (.long old), .second, .val (.long x), .second, .val (.long s'), .second, .val (.int ids), .val (.int fl), .unset, .unset, .unset, .unset, .unset, .unset, .unset, .unset, .unset, .unset, .unset, .unset, .unset, .unset, .unset, .unset, .unset, .unset, .unset] [])) target := by
  obtain ⟨Epd1, Fapd1, Fbpd1, Fcpd1, Fdpd1⟩ := PA
  have ne_pq_arr : pq ≠ arr := own_pe Epd1 VA (ow hw 1 rfl)
  obtain ⟨_, _, ⟨T2, L2, k2, n2⟩, -, X2, ⟨Lc2, hQ2, l2, y2, z2⟩, st2⟩ := Jvm.LawKit.callS X0 hx (y := nm_4) hown (mvT hZ (ow hw 23 rfl)) (mvT hZ (ow hw 24 rfl)) (mvT hZ (ow hw 25 rfl)) (mvT hZ (ow hw 26 rfl)) (by decide) (backOf (W := 0) (rm4 l Z a0 hw [] x cb h0 n0 Z0 O0 SC LC) hZ (ow hw 26 rfl) (ow hw 25 rfl) (by decide) (by decide)) (g := (mkF m 77 #[.val (.ref pq), .val (.ref arr), .val (.long old), .second, .val (.long x), .second, .val (.long s'), .second, .val (.int ids), .val (.int fl), .val (.int (0 : Int32)), .val (.int (0 : Int32)), .val (.int (0 : Int32)), .val (.long jj), .second, .val (.long tt), .second, .unset, .unset, .unset, .unset, .unset, .unset, .unset, .unset, .unset, .unset, .unset, .unset] [(.long x)])) rfl (by rw [hml]; rfl) (argsL := [(.long x)]) (rest := []) (lenOf pd_2 rfl) rfl (by show 2 * 0 + _ ≤ _; exact Nat.le_of_eq rfl) (hb hby d3_77) (fun _ _ => ⟨rfl, e0, (by decide : 0 + 1 ≤ _), (by decide : 0 + 1 ≤ _)⟩)
  dsimp only [Pt.U, Pt.locs, Pt.cells, Pt.slots] at X2 l2 y2 z2 st2 hQ2
  subst l2 y2 z2
  obtain ⟨av2, rfl, N2q, Ev2, EE2, FF2⟩ := hQ2
  have N2 := Fr.app N0 N2q
  have LJ2 := LJ.ext Ev2
  have c3 := O0.ext Ev2
  obtain ⟨_, _, ⟨T4, L4, k4, n4⟩, -, X4, ⟨Lc4, hQ4, l4, y4, z4⟩, st4⟩ := Jvm.LawKit.callS X2 hx (y := nm_4) hown (mvT hZ (ow hw 23 rfl)) (mvT hZ (ow hw 24 rfl)) (mvT hZ (ow hw 25 rfl)) (mvT hZ (ow hw 26 rfl)) (by decide) (backOf (W := 0) (rm4 l Z a0 hw [] s' cb T2.heap n0 (Nat.le_trans Z0 Ev2.1) c3 SC LC) hZ (ow hw 26 rfl) (ow hw 25 rfl) (by decide) (by decide)) (g := (mkF m 93 #[.val (.ref pq), .val (.ref arr), .val (.long old), .second, .val (.long x), .second, .val (.long s'), .second, .val (.int ids), .val (.int fl), .val (.int (0 : Int32)), .val (.int (0 : Int32)), .val (.int (0 : Int32)), .val (.long jj), .second, .val (.long tt), .second, .val (.ref av2), .unset, .unset, .unset, .unset, .unset, .unset, .unset, .unset, .unset, .unset, .unset] [(.long s')])) rfl (by rw [hml]; rfl) (argsL := [(.long s')]) (rest := []) (lenOf pd_2 rfl) rfl (by show 2 * 0 + _ ≤ _; exact Nat.le_of_eq rfl) (hb hby d3_93) (fun _ _ => ⟨rfl, rfl, (by decide : 1 + 1 ≤ _), (by decide : 1 + 1 ≤ _)⟩)
  dsimp only [Pt.U, Pt.locs, Pt.cells, Pt.slots] at X4 l4 y4 z4 st4 hQ4
  subst l4 y4 z4
  obtain ⟨av4, rfl, N4q, Ev4, EE4, FF4⟩ := hQ4
  have N4 := Fr.app N2 N4q
  have LJ4 := LJ2.ext Ev4
  have c5 := c3.ext Ev4
  obtain ⟨_, _, ⟨T6, L6, k6, n6⟩, -, X6, ⟨Lc6, hQ6, l6, y6, z6⟩, st6⟩ := Jvm.LawKit.callS X4 hx (y := nm_4) hown (mvT hZ (ow hw 23 rfl)) (mvT hZ (ow hw 24 rfl)) (mvT hZ (ow hw 25 rfl)) (mvT hZ (ow hw 26 rfl)) (by decide) (backOf (W := 0) (rm4 l Z a0 hw [] jj cb T4.heap n0 (Nat.le_trans (Nat.le_trans Z0 Ev2.1) Ev4.1) c5 SC LC) hZ (ow hw 26 rfl) (ow hw 25 rfl) (by decide) (by decide)) (g := (mkF m 109 #[.val (.ref pq), .val (.ref arr), .val (.long old), .second, .val (.long x), .second, .val (.long s'), .second, .val (.int ids), .val (.int fl), .val (.int (0 : Int32)), .val (.int (0 : Int32)), .val (.int (0 : Int32)), .val (.long jj), .second, .val (.long tt), .second, .val (.ref av2), .val (.ref av4), .unset, .unset, .unset, .unset, .unset, .unset, .unset, .unset, .unset, .unset] [(.long jj)])) rfl (by rw [hml]; rfl) (argsL := [(.long jj)]) (rest := []) (lenOf pd_2 rfl) rfl (by show 2 * 0 + _ ≤ _; exact Nat.le_of_eq rfl) (hb hby d3_109) (fun _ _ => ⟨rfl, rfl, (by decide : 2 + 1 ≤ _), (by decide : 2 + 1 ≤ _)⟩)
  dsimp only [Pt.U, Pt.locs, Pt.cells, Pt.slots] at X6 l6 y6 z6 st6 hQ6
  subst l6 y6 z6
  obtain ⟨av6, rfl, N6q, Ev6, EE6, FF6⟩ := hQ6
  have N6 := Fr.app N4 N6q
  have LJ6 := LJ4.ext Ev6
  have c7 := c5.ext Ev6
  obtain ⟨_, _, ⟨T8, L8, k8, n8⟩, -, X8, ⟨Lc8, hQ8, l8, y8, z8⟩, st8⟩ := Jvm.LawKit.callS X6 hx (y := nm_4) hown (mvT hZ (ow hw 23 rfl)) (mvT hZ (ow hw 24 rfl)) (mvT hZ (ow hw 25 rfl)) (mvT hZ (ow hw 26 rfl)) (by decide) (backOf (W := 0) (rm4 l Z a0 hw [] tt cb T6.heap n0 (Nat.le_trans (Nat.le_trans (Nat.le_trans Z0 Ev2.1) Ev4.1) Ev6.1) c7 SC LC) hZ (ow hw 26 rfl) (ow hw 25 rfl) (by decide) (by decide)) (g := (mkF m 125 #[.val (.ref pq), .val (.ref arr), .val (.long old), .second, .val (.long x), .second, .val (.long s'), .second, .val (.int ids), .val (.int fl), .val (.int (0 : Int32)), .val (.int (0 : Int32)), .val (.int (0 : Int32)), .val (.long jj), .second, .val (.long tt), .second, .val (.ref av2), .val (.ref av4), .val (.ref av6), .unset, .unset, .unset, .unset, .unset, .unset, .unset, .unset, .unset] [(.long tt)])) rfl (by rw [hml]; rfl) (argsL := [(.long tt)]) (rest := []) (lenOf pd_2 rfl) rfl (by show 2 * 0 + _ ≤ _; exact Nat.le_of_eq rfl) (hb hby d3_125) (fun _ _ => ⟨rfl, rfl, (by decide : 3 + 1 ≤ _), (by decide : 3 + 1 ≤ _)⟩)
  dsimp only [Pt.U, Pt.locs, Pt.cells, Pt.slots] at X8 l8 y8 z8 st8 hQ8
  subst l8 y8 z8
  obtain ⟨av8, rfl, N8q, Ev8, EE8, FF8⟩ := hQ8
  have N8 := Fr.app N6 N8q
  have LJ8 := LJ6.ext Ev8
  have c9 := EE2.ext Ev4
  have c10 := c9.ext Ev6
  have c11 := c10.ext Ev8
  have c12 := FF2.ext Ev4
  have c13 := c12.ext Ev6
  have c14 := c13.ext Ev8
  have c15 := EE4.ext Ev6
  have c16 := c15.ext Ev8
  have c17 := FF4.ext Ev6
  have c18 := c17.ext Ev8
  have c19 := EE6.ext Ev8
  have c20 := FF6.ext Ev8
  have L3 : LR Z T8.heap (.ref av6) (some jj) := (Or.inr ⟨av6, _, rfl, rfl, c19, c20⟩)
  have L4 : LR Z T8.heap (.ref av8) (some tt) := (Or.inr ⟨av8, _, rfl, rfl, EE8, FF8⟩)
  have c21 := Epd1.ext Ev2
  have c22 := c21.ext Ev4
  have c23 := c22.ext Ev6
  have c24 := c23.ext Ev8
  have c25 := Fapd1.ext Ev2
  have c26 := c25.ext Ev4
  have c27 := c26.ext Ev6
  have c28 := c27.ext Ev8
  have c29 := Fbpd1.ext Ev2
  have c30 := c29.ext Ev4
  have c31 := c30.ext Ev6
  have c32 := c31.ext Ev8
  have c33 := Fcpd1.ext Ev2
  have c34 := c33.ext Ev4
  have c35 := c34.ext Ev6
  have c36 := c35.ext Ev8
  have c37 := Fdpd1.ext Ev2
  have c38 := c37.ext Ev4
  have c39 := c38.ext Ev6
  have c40 := c39.ext Ev8
  obtain ⟨cq41, kq41, q41a, q41b, q41c⟩ := isOf hZ rfl c24
  obtain ⟨_, _, ⟨T41, L41, k41, n41⟩, -, X41, ⟨Lc41, hQ41, l41, y41, z41⟩, st41⟩ := X8.virtualBack hx (y := nm_7) (z := nm_7) hown (mvT hZ (ow hw 46 rfl)) (mvT hZ (ow hw 47 rfl)) (notFace_of_selects (args := #[]) (mvT hZ (ow hw 49 rfl))) (mvT hZ (ow hw 49 rfl)) (mvT hZ (ow hw 48 rfl)) (by decide) (backOf (W := 0) (rm7 l Z a0 hw [] old pq fx fs jr sn (.ref av2) (.ref av4) (.ref av6) (.ref av8) (some (x, s')) (some jj) (some tt) oj T8.heap n0 (Nat.le_trans (Nat.le_trans (Nat.le_trans (Nat.le_trans Z0 Ev2.1) Ev4.1) Ev6.1) Ev8.1) g0_pq ⟨c24, c28, c32, c36, c40⟩ (Or.inr ⟨_, _, _, _, rfl, rfl, rfl, c11, c14, c16, c18⟩) L3 L4 LJ8) hZ (ow hw 50 rfl) (ow hw 2 rfl) (by decide) (by decide)) q41a q41c (g := (mkF m 140 #[.val (.ref pq), .val (.ref arr), .val (.long old), .second, .val (.long x), .second, .val (.long s'), .second, .val (.int ids), .val (.int fl), .val (.int (0 : Int32)), .val (.int (0 : Int32)), .val (.int (0 : Int32)), .val (.long jj), .second, .val (.long tt), .second, .val (.ref av2), .val (.ref av4), .val (.ref av6), .val (.ref av8), .unset, .unset, .unset, .unset, .unset, .unset, .unset, .unset] [(.ref av8), (.ref av6), (.ref av4), (.ref av2), (.long old), (.ref pq)])) rfl (by rw [hml]; rfl) (Steps.refl _) (argsL := [(.long old), (.ref av2), (.ref av4), (.ref av6), (.ref av8)]) (rest := []) (lenOf pd_4 rfl) rfl (by show 2 * 0 + _ ≤ _; exact Nat.le_of_eq rfl) (hb hby d3_140) (fun _ _ => ⟨rfl, rfl, (by decide : 4 + 0 ≤ _), (by decide : 4 + 0 ≤ _)⟩)
  dsimp only [Pt.U, Pt.locs, Pt.cells, Pt.slots] at X41 l41 y41 z41 st41 hQ41
  subst l41 y41 z41
  obtain ⟨rfl, N41q, K41, PB41⟩ := hQ41
  have N41 := Fr.app N8 N41q
  have LN : LR Z T41.heap (own_jr oj (some jj) (some tt) (.ref av6) (.ref av8)) (own_jo oj (some jj) (some tt)) := (LR_new L3 L4).keepP K41 c24 (by decide)
  have kp42 : Keep h0 T41.heap [pq] := ((((((Keep.refl h0 [pq]).ext Ev2).ext Ev4).ext Ev6).ext Ev8).trans K41 (allS (Or.inl (List.mem_of_getElem? (i := 0) rfl)) all0))
  have c43 := VA.ext Ev2
  have c44 := c43.ext Ev4
  have c45 := c44.ext Ev6
  have c46 := c45.ext Ev8
  have c47 := c46.keep K41 (ninS (Ne.symm ne_pq_arr) nin0)
  have c48 := c7.ext Ev8
  have c49 := c48.keep K41 (allS g0_pq all0)
  refine ⟨T41, _, _, _, (.ref av2), (.ref av4), (.ref av6), (.ref av8), X41, rfl, N41, ⟨PB41, LN, c47, c49, kp42⟩, fun target kt => ?_⟩
  show Steps p.tables e below (T0.setTop (mkF m 0 #[.val (.ref pq), .val (.ref arr), .val (.long old), .second, .val (.long x), .second, .val (.long s'), .second, .val (.int ids), .val (.int fl), .unset, .unset, .unset, .unset, .unset, .unset, .unset, .unset, .unset, .unset, .unset, .unset, .unset, .unset, .unset, .unset, .unset, .unset, .unset] [])) _
  refine XS.iload X0.here hx rfl (hb hby d3_0) rfl ?_
  refine XS.iconst X0.here hx rfl (hb hby d3_2) ?_
  refine XS.iand X0.here hx rfl (hb hby d3_3) rfl ?_
  refine XS.ifYes X0.here hx rfl (pc0 := 4) (pc' := 11) rfl (hb hby d3_4) rfl ((if0 _ _).trans (teq hc4).1) (by decide) (by decide) ?_
  refine XS.iconst X0.here hx rfl (hb hby d3_11) ?_
  refine XS.istore X0.here hx rfl (hb hby d3_12) rfl (l' := #[.val (.ref pq), .val (.ref arr), .val (.long old), .second, .val (.long x), .second, .val (.long s'), .second, .val (.int ids), .val (.int fl), .val (.int (0 : Int32)), .unset, .unset, .unset, .unset, .unset, .unset, .unset, .unset, .unset, .unset, .unset, .unset, .unset, .unset, .unset, .unset, .unset, .unset]) rfl ?_
  refine XS.iload X0.here hx rfl (hb hby d3_14) rfl ?_
  refine XS.iconst X0.here hx rfl (hb hby d3_16) ?_
  refine XS.iand X0.here hx rfl (hb hby d3_17) rfl ?_
  show Steps p.tables e below (T0.setTop (mkF m 18 #[.val (.ref pq), .val (.ref arr), .val (.long old), .second, .val (.long x), .second, .val (.long s'), .second, .val (.int ids), .val (.int fl), .val (.int (0 : Int32)), .unset, .unset, .unset, .unset, .unset, .unset, .unset, .unset, .unset, .unset, .unset, .unset, .unset, .unset, .unset, .unset, .unset, .unset] [(.int (fl &&& (2 : Int32)))])) _
  refine XS.ifYes X0.here hx rfl (pc0 := 18) (pc' := 25) rfl (hb hby d3_18) rfl ((if0 _ _).trans (teq hc18).1) (by decide) (by decide) ?_
  refine XS.iconst X0.here hx rfl (hb hby d3_25) ?_
  refine XS.istore X0.here hx rfl (hb hby d3_26) rfl (l' := #[.val (.ref pq), .val (.ref arr), .val (.long old), .second, .val (.long x), .second, .val (.long s'), .second, .val (.int ids), .val (.int fl), .val (.int (0 : Int32)), .val (.int (0 : Int32)), .unset, .unset, .unset, .unset, .unset, .unset, .unset, .unset, .unset, .unset, .unset, .unset, .unset, .unset, .unset, .unset, .unset]) rfl ?_
  refine XS.iload X0.here hx rfl (hb hby d3_28) rfl ?_
  refine XS.iconst X0.here hx rfl (hb hby d3_30) ?_
  refine XS.iand X0.here hx rfl (hb hby d3_31) rfl ?_
  refine XS.ifYes X0.here hx rfl (pc0 := 32) (pc' := 39) rfl (hb hby d3_32) rfl ((if0 _ _).trans (teq hc32).1) (by decide) (by decide) ?_
  refine XS.iconst X0.here hx rfl (hb hby d3_39) ?_
  refine XS.istore X0.here hx rfl (hb hby d3_40) rfl (l' := #[.val (.ref pq), .val (.ref arr), .val (.long old), .second, .val (.long x), .second, .val (.long s'), .second, .val (.int ids), .val (.int fl), .val (.int (0 : Int32)), .val (.int (0 : Int32)), .val (.int (0 : Int32)), .unset, .unset, .unset, .unset, .unset, .unset, .unset, .unset, .unset, .unset, .unset, .unset, .unset, .unset, .unset, .unset]) rfl ?_
  show Steps p.tables e below (T0.setTop (mkF m 42 #[.val (.ref pq), .val (.ref arr), .val (.long old), .second, .val (.long x), .second, .val (.long s'), .second, .val (.int ids), .val (.int fl), .val (.int (0 : Int32)), .val (.int (0 : Int32)), .val (.int (0 : Int32)), .unset, .unset, .unset, .unset, .unset, .unset, .unset, .unset, .unset, .unset, .unset, .unset, .unset, .unset, .unset, .unset] [])) _
  refine X0.ldc2Long hx hown (mvT hZ (ow hw 22 rfl)) (g := (mkF m 42 #[.val (.ref pq), .val (.ref arr), .val (.long old), .second, .val (.long x), .second, .val (.long s'), .second, .val (.int ids), .val (.int fl), .val (.int (0 : Int32)), .val (.int (0 : Int32)), .val (.int (0 : Int32)), .unset, .unset, .unset, .unset, .unset, .unset, .unset, .unset, .unset, .unset, .unset, .unset, .unset, .unset, .unset, .unset] [])) rfl (hb hby d3_42) _ ?_
  refine XS.iload X0.here hx rfl (hb hby d3_45) rfl ?_
  refine XS.iconst X0.here hx rfl (hb hby d3_47) ?_
  refine XS.iand X0.here hx rfl (hb hby d3_48) rfl ?_
  refine XS.i2l X0.here hx rfl (hb hby d3_49) rfl ?_
  refine XS.ladd X0.here hx rfl (hb hby d3_50) rfl ?_
  show Steps p.tables e below (T0.setTop (mkF m 51 #[.val (.ref pq), .val (.ref arr), .val (.long old), .second, .val (.long x), .second, .val (.long s'), .second, .val (.int ids), .val (.int fl), .val (.int (0 : Int32)), .val (.int (0 : Int32)), .val (.int (0 : Int32)), .unset, .unset, .unset, .unset, .unset, .unset, .unset, .unset, .unset, .unset, .unset, .unset, .unset, .unset, .unset, .unset] [(.long ((1000 : Int64) + ((ids &&& (3 : Int32)).toInt64)))])) _
  rw [hjj]
  refine XS.lstore X0.here hx rfl (hb hby d3_51) rfl (l' := #[.val (.ref pq), .val (.ref arr), .val (.long old), .second, .val (.long x), .second, .val (.long s'), .second, .val (.int ids), .val (.int fl), .val (.int (0 : Int32)), .val (.int (0 : Int32)), .val (.int (0 : Int32)), .val (.long jj), .second, .unset, .unset, .unset, .unset, .unset, .unset, .unset, .unset, .unset, .unset, .unset, .unset, .unset, .unset]) rfl ?_
  refine X0.ldc2Long hx hown (mvT hZ (ow hw 22 rfl)) (g := (mkF m 53 #[.val (.ref pq), .val (.ref arr), .val (.long old), .second, .val (.long x), .second, .val (.long s'), .second, .val (.int ids), .val (.int fl), .val (.int (0 : Int32)), .val (.int (0 : Int32)), .val (.int (0 : Int32)), .val (.long jj), .second, .unset, .unset, .unset, .unset, .unset, .unset, .unset, .unset, .unset, .unset, .unset, .unset, .unset, .unset] [])) rfl (hb hby d3_53) _ ?_
  refine XS.iload X0.here hx rfl (hb hby d3_56) rfl ?_
  show Steps p.tables e below (T0.setTop (mkF m 58 #[.val (.ref pq), .val (.ref arr), .val (.long old), .second, .val (.long x), .second, .val (.long s'), .second, .val (.int ids), .val (.int fl), .val (.int (0 : Int32)), .val (.int (0 : Int32)), .val (.int (0 : Int32)), .val (.long jj), .second, .unset, .unset, .unset, .unset, .unset, .unset, .unset, .unset, .unset, .unset, .unset, .unset, .unset, .unset] [(.int ids), (.long (1000 : Int64))])) _
  refine XS.iconst X0.here hx rfl (hb hby d3_58) ?_
  refine XS.ishr X0.here hx rfl (hb hby d3_59) rfl ?_
  refine XS.iconst X0.here hx rfl (hb hby d3_60) ?_
  refine XS.iand X0.here hx rfl (hb hby d3_61) rfl ?_
  refine XS.i2l X0.here hx rfl (hb hby d3_62) rfl ?_
  refine XS.ladd X0.here hx rfl (hb hby d3_63) rfl ?_
  show Steps p.tables e below (T0.setTop (mkF m 64 #[.val (.ref pq), .val (.ref arr), .val (.long old), .second, .val (.long x), .second, .val (.long s'), .second, .val (.int ids), .val (.int fl), .val (.int (0 : Int32)), .val (.int (0 : Int32)), .val (.int (0 : Int32)), .val (.long jj), .second, .unset, .unset, .unset, .unset, .unset, .unset, .unset, .unset, .unset, .unset, .unset, .unset, .unset, .unset] [(.long ((1000 : Int64) + (((ids >>> ((2 : Int32) &&& 31)) &&& (3 : Int32)).toInt64)))])) _
  rw [htt]
  refine XS.lstore X0.here hx rfl (hb hby d3_64) rfl (l' := #[.val (.ref pq), .val (.ref arr), .val (.long old), .second, .val (.long x), .second, .val (.long s'), .second, .val (.int ids), .val (.int fl), .val (.int (0 : Int32)), .val (.int (0 : Int32)), .val (.int (0 : Int32)), .val (.long jj), .second, .val (.long tt), .second, .unset, .unset, .unset, .unset, .unset, .unset, .unset, .unset, .unset, .unset, .unset, .unset]) rfl ?_
  refine XS.iload X0.here hx rfl (hb hby d3_66) rfl ?_
  refine XS.ifYes X0.here hx rfl (pc0 := 68) (pc' := 75) rfl (hb hby d3_68) rfl ((if0 _ _).trans (teq (rfl : (0 : Int32) = (0 : Int32))).1) (by decide) (by decide) ?_
  show Steps p.tables e below (T0.setTop (mkF m 75 #[.val (.ref pq), .val (.ref arr), .val (.long old), .second, .val (.long x), .second, .val (.long s'), .second, .val (.int ids), .val (.int fl), .val (.int (0 : Int32)), .val (.int (0 : Int32)), .val (.int (0 : Int32)), .val (.long jj), .second, .val (.long tt), .second, .unset, .unset, .unset, .unset, .unset, .unset, .unset, .unset, .unset, .unset, .unset, .unset] [])) _
  refine XS.lload X0.here hx rfl (hb hby d3_75) rfl ?_
  refine st2 _ ?_
  refine XS.astore X2.here hx rfl (hb hby d3_80) rfl rfl (l' := #[.val (.ref pq), .val (.ref arr), .val (.long old), .second, .val (.long x), .second, .val (.long s'), .second, .val (.int ids), .val (.int fl), .val (.int (0 : Int32)), .val (.int (0 : Int32)), .val (.int (0 : Int32)), .val (.long jj), .second, .val (.long tt), .second, .val (.ref av2), .unset, .unset, .unset, .unset, .unset, .unset, .unset, .unset, .unset, .unset, .unset]) rfl ?_
  refine XS.iload X2.here hx rfl (hb hby d3_82) rfl ?_
  refine XS.ifYes X2.here hx rfl (pc0 := 84) (pc' := 91) rfl (hb hby d3_84) rfl ((if0 _ _).trans (teq (rfl : (0 : Int32) = (0 : Int32))).1) (by decide) (by decide) ?_
  refine XS.lload X2.here hx rfl (hb hby d3_91) rfl ?_
  refine st4 _ ?_
  refine XS.astore X4.here hx rfl (hb hby d3_96) rfl rfl (l' := #[.val (.ref pq), .val (.ref arr), .val (.long old), .second, .val (.long x), .second, .val (.long s'), .second, .val (.int ids), .val (.int fl), .val (.int (0 : Int32)), .val (.int (0 : Int32)), .val (.int (0 : Int32)), .val (.long jj), .second, .val (.long tt), .second, .val (.ref av2), .val (.ref av4), .unset, .unset, .unset, .unset, .unset, .unset, .unset, .unset, .unset, .unset]) rfl ?_
  refine XS.iload X4.here hx rfl (hb hby d3_98) rfl ?_
  show Steps p.tables e below (T4.setTop (mkF m 100 #[.val (.ref pq), .val (.ref arr), .val (.long old), .second, .val (.long x), .second, .val (.long s'), .second, .val (.int ids), .val (.int fl), .val (.int (0 : Int32)), .val (.int (0 : Int32)), .val (.int (0 : Int32)), .val (.long jj), .second, .val (.long tt), .second, .val (.ref av2), .val (.ref av4), .unset, .unset, .unset, .unset, .unset, .unset, .unset, .unset, .unset, .unset] [(.int (0 : Int32))])) _
  refine XS.ifYes X4.here hx rfl (pc0 := 100) (pc' := 107) rfl (hb hby d3_100) rfl ((if0 _ _).trans (teq (rfl : (0 : Int32) = (0 : Int32))).1) (by decide) (by decide) ?_
  refine XS.lload X4.here hx rfl (hb hby d3_107) rfl ?_
  refine st6 _ ?_
  refine XS.astore X6.here hx rfl (hb hby d3_112) rfl rfl (l' := #[.val (.ref pq), .val (.ref arr), .val (.long old), .second, .val (.long x), .second, .val (.long s'), .second, .val (.int ids), .val (.int fl), .val (.int (0 : Int32)), .val (.int (0 : Int32)), .val (.int (0 : Int32)), .val (.long jj), .second, .val (.long tt), .second, .val (.ref av2), .val (.ref av4), .val (.ref av6), .unset, .unset, .unset, .unset, .unset, .unset, .unset, .unset, .unset]) rfl ?_
  refine XS.iload X6.here hx rfl (hb hby d3_114) rfl ?_
  refine XS.ifYes X6.here hx rfl (pc0 := 116) (pc' := 123) rfl (hb hby d3_116) rfl ((if0 _ _).trans (teq (rfl : (0 : Int32) = (0 : Int32))).1) (by decide) (by decide) ?_
  refine XS.lload X6.here hx rfl (hb hby d3_123) rfl ?_
  refine st8 _ ?_
  refine XS.astore X8.here hx rfl (hb hby d3_128) rfl rfl (l' := #[.val (.ref pq), .val (.ref arr), .val (.long old), .second, .val (.long x), .second, .val (.long s'), .second, .val (.int ids), .val (.int fl), .val (.int (0 : Int32)), .val (.int (0 : Int32)), .val (.int (0 : Int32)), .val (.long jj), .second, .val (.long tt), .second, .val (.ref av2), .val (.ref av4), .val (.ref av6), .val (.ref av8), .unset, .unset, .unset, .unset, .unset, .unset, .unset, .unset]) rfl ?_
  show Steps p.tables e below (T8.setTop (mkF m 130 #[.val (.ref pq), .val (.ref arr), .val (.long old), .second, .val (.long x), .second, .val (.long s'), .second, .val (.int ids), .val (.int fl), .val (.int (0 : Int32)), .val (.int (0 : Int32)), .val (.int (0 : Int32)), .val (.long jj), .second, .val (.long tt), .second, .val (.ref av2), .val (.ref av4), .val (.ref av6), .val (.ref av8), .unset, .unset, .unset, .unset, .unset, .unset, .unset, .unset] [])) _
  refine XS.aloadN X8.here hx rfl (hb hby d3_130) rfl rfl ?_
  refine XS.lloadN X8.here hx rfl (hb hby d3_131) rfl ?_
  refine XS.aload X8.here hx rfl (hb hby d3_132) rfl rfl ?_
  refine XS.aload X8.here hx rfl (hb hby d3_134) rfl rfl ?_
  refine XS.aload X8.here hx rfl (hb hby d3_136) rfl rfl ?_
  refine XS.aload X8.here hx rfl (hb hby d3_138) rfl rfl ?_
  refine st41.trans ?_
  exact kt
theorem d3_35 : decode method_4_code 35 = .ok (.iconst 1, 1) := by decide +kernel
theorem d3_36 : decode method_4_code 36 = .ok (.goto 4, 3) := by decide +kernel
theorem d3_119 : decode method_4_code 119 = .ok (.aconst_null, 1) := by decide +kernel
theorem d3_120 : decode method_4_code 120 = .ok (.goto 8, 3) := by decide +kernel
set_option maxRecDepth 65536 in
set_option maxHeartbeats 40000000 in
theorem s1_001 {p : Program} {l : Launch} {e : Env} {s : State} {m : MethodId} {args : Array Value} {below : List Frame} {meth : Method} {c : Code} {T0 : State} {Z : State} {a0 : Array Value} {h0 : Heap} {n0 : Nat} (pq : Addr) (arr : Addr) (k : ClassId) (cb : Addr) (old : Int64) (x : Int64) (s' : Int64) (ids : Int32) (fl : Int32) (fx : Int64) (fs : Int64) (jr : Value) (sn : Value) (oj : Option Int64) (v2 : Int64) (v3 : Int64) (jj : Int64) (tt : Int64)
    (X0 : Stand p l e rr_4_4_4_53 s m args below meth c T0 [] 0 0) (hx : p.tables.exec = Jvm.exec) (hZ : Z.Warmed39 s.vm) (hw : ∀ d ∈ tables_1, d.before a0 Z = true) (hby : c.code = method_4_code) (hml : c.maxLocals = 29) (hown : s.vm.findClass "com/example/keyed_work_queue/keyedworkqueue/PendingFoundPinLaw" = some m.cls) (e0 : T0.heap = h0) (Z0 : n0 ≤ h0.size) (N0 : Fr n0 []) (hjj : ((1000 : Int64) + ((ids &&& (3 : Int32)).toInt64)) = jj) (htt : ((1000 : Int64) + (((ids >>> ((2 : Int32) &&& 31)) &&& (3 : Int32)).toInt64)) = tt) (g0_pq : n0 ≤ pq) (g0_arr : n0 ≤ arr) (PA : PdAt Z h0 pq fx fs jr sn) (O0 : Old Z n0 h0) (SC : Sta Z Z.heap "java/lang/Long$LongCache" "cache" "[Ljava/lang/Long;" (.ref cb)) (LC : LCache Z cb) (LJ : LR Z h0 jr oj) (VA : Arv Z h0 arr k .long (4 : Int32) [(.long fx), (.long fs), (.long v2), (.long v3)] (.long (0 : Int64))) (hc4 : (fl &&& (1 : Int32)) = (0 : Int32)) (hc18 : (fl &&& (2 : Int32)) = (0 : Int32)) (hc32 : ¬ ((fl &&& (4 : Int32)) = (0 : Int32))) :
    ∃ (T' : State) (h' : Heap) (L' : List Loc) (jr' r1 r2 r3 r4 : Value), Stand p l e rr_4_4_4_53 s m args below meth c T' L' 3 3 ∧ T'.heap = h' ∧ Fr n0 L' ∧ (PdAt Z h' pq (own_fl oj (own_or (some jj) none) (fx, fs) (own_cand old (some (x, s')))).1 (own_fl oj (own_or (some jj) none) (fx, fs) (own_cand old (some (x, s')))).2 jr' (.int (1 : Int32)) ∧ LR Z h' jr' (own_jo oj (some jj) none) ∧ Arv Z h' arr k .long (4 : Int32) [(.long fx), (.long fs), (.long v2), (.long v3)] (.long (0 : Int64)) ∧ Old Z n0 h' ∧ Keep h0 h' [pq]) ∧
      ∀ target, Steps p.tables e below (T'.setTop (mkF m 143 #[.val (.ref pq), .val (.ref arr), .val (.long old), .second, .val (.long x), .second, .val (.long s'), .second, .val (.int ids), .val (.int fl), .val (.int (0 : Int32)), .val (.int (0 : Int32)), .val (.int (1 : Int32)), .val (.long jj), .second, .val (.long tt), .second, .val r1, .val r2, .val r3, .val r4, .unset, .unset, .unset, .unset, .unset, .unset, .unset, .unset] [])) target → Steps p.tables e below (T0.setTop (mkF m 0 #[.val (.ref pq), .val (.ref arr), .val (.long old), .second, .val (.long x), .second, .val (.long s'), .second, .val (.int ids), .val (.int fl), .unset, .unset, .unset, .unset, .unset, .unset, .unset, .unset, .unset, .unset, .unset, .unset, .unset, .unset, .unset, .unset, .unset, .unset, .unset] [])) target := by
  obtain ⟨Epd1, Fapd1, Fbpd1, Fcpd1, Fdpd1⟩ := PA
  have ne_pq_arr : pq ≠ arr := own_pe Epd1 VA (ow hw 1 rfl)
  obtain ⟨_, _, ⟨T2, L2, k2, n2⟩, -, X2, ⟨Lc2, hQ2, l2, y2, z2⟩, st2⟩ := Jvm.LawKit.callS X0 hx (y := nm_4) hown (mvT hZ (ow hw 23 rfl)) (mvT hZ (ow hw 24 rfl)) (mvT hZ (ow hw 25 rfl)) (mvT hZ (ow hw 26 rfl)) (by decide) (backOf (W := 0) (rm4 l Z a0 hw [] x cb h0 n0 Z0 O0 SC LC) hZ (ow hw 26 rfl) (ow hw 25 rfl) (by decide) (by decide)) (g := (mkF m 77 #[.val (.ref pq), .val (.ref arr), .val (.long old), .second, .val (.long x), .second, .val (.long s'), .second, .val (.int ids), .val (.int fl), .val (.int (0 : Int32)), .val (.int (0 : Int32)), .val (.int (1 : Int32)), .val (.long jj), .second, .val (.long tt), .second, .unset, .unset, .unset, .unset, .unset, .unset, .unset, .unset, .unset, .unset, .unset, .unset] [(.long x)])) rfl (by rw [hml]; rfl) (argsL := [(.long x)]) (rest := []) (lenOf pd_2 rfl) rfl (by show 2 * 0 + _ ≤ _; exact Nat.le_of_eq rfl) (hb hby d3_77) (fun _ _ => ⟨rfl, e0, (by decide : 0 + 1 ≤ _), (by decide : 0 + 1 ≤ _)⟩)
  dsimp only [Pt.U, Pt.locs, Pt.cells, Pt.slots] at X2 l2 y2 z2 st2 hQ2
  subst l2 y2 z2
  obtain ⟨av2, rfl, N2q, Ev2, EE2, FF2⟩ := hQ2
  have N2 := Fr.app N0 N2q
  have LJ2 := LJ.ext Ev2
  have c3 := O0.ext Ev2
  obtain ⟨_, _, ⟨T4, L4, k4, n4⟩, -, X4, ⟨Lc4, hQ4, l4, y4, z4⟩, st4⟩ := Jvm.LawKit.callS X2 hx (y := nm_4) hown (mvT hZ (ow hw 23 rfl)) (mvT hZ (ow hw 24 rfl)) (mvT hZ (ow hw 25 rfl)) (mvT hZ (ow hw 26 rfl)) (by decide) (backOf (W := 0) (rm4 l Z a0 hw [] s' cb T2.heap n0 (Nat.le_trans Z0 Ev2.1) c3 SC LC) hZ (ow hw 26 rfl) (ow hw 25 rfl) (by decide) (by decide)) (g := (mkF m 93 #[.val (.ref pq), .val (.ref arr), .val (.long old), .second, .val (.long x), .second, .val (.long s'), .second, .val (.int ids), .val (.int fl), .val (.int (0 : Int32)), .val (.int (0 : Int32)), .val (.int (1 : Int32)), .val (.long jj), .second, .val (.long tt), .second, .val (.ref av2), .unset, .unset, .unset, .unset, .unset, .unset, .unset, .unset, .unset, .unset, .unset] [(.long s')])) rfl (by rw [hml]; rfl) (argsL := [(.long s')]) (rest := []) (lenOf pd_2 rfl) rfl (by show 2 * 0 + _ ≤ _; exact Nat.le_of_eq rfl) (hb hby d3_93) (fun _ _ => ⟨rfl, rfl, (by decide : 1 + 1 ≤ _), (by decide : 1 + 1 ≤ _)⟩)
  dsimp only [Pt.U, Pt.locs, Pt.cells, Pt.slots] at X4 l4 y4 z4 st4 hQ4
  subst l4 y4 z4
  obtain ⟨av4, rfl, N4q, Ev4, EE4, FF4⟩ := hQ4
  have N4 := Fr.app N2 N4q
  have LJ4 := LJ2.ext Ev4
  have c5 := c3.ext Ev4
  obtain ⟨_, _, ⟨T6, L6, k6, n6⟩, -, X6, ⟨Lc6, hQ6, l6, y6, z6⟩, st6⟩ := Jvm.LawKit.callS X4 hx (y := nm_4) hown (mvT hZ (ow hw 23 rfl)) (mvT hZ (ow hw 24 rfl)) (mvT hZ (ow hw 25 rfl)) (mvT hZ (ow hw 26 rfl)) (by decide) (backOf (W := 0) (rm4 l Z a0 hw [] jj cb T4.heap n0 (Nat.le_trans (Nat.le_trans Z0 Ev2.1) Ev4.1) c5 SC LC) hZ (ow hw 26 rfl) (ow hw 25 rfl) (by decide) (by decide)) (g := (mkF m 109 #[.val (.ref pq), .val (.ref arr), .val (.long old), .second, .val (.long x), .second, .val (.long s'), .second, .val (.int ids), .val (.int fl), .val (.int (0 : Int32)), .val (.int (0 : Int32)), .val (.int (1 : Int32)), .val (.long jj), .second, .val (.long tt), .second, .val (.ref av2), .val (.ref av4), .unset, .unset, .unset, .unset, .unset, .unset, .unset, .unset, .unset, .unset] [(.long jj)])) rfl (by rw [hml]; rfl) (argsL := [(.long jj)]) (rest := []) (lenOf pd_2 rfl) rfl (by show 2 * 0 + _ ≤ _; exact Nat.le_of_eq rfl) (hb hby d3_109) (fun _ _ => ⟨rfl, rfl, (by decide : 2 + 1 ≤ _), (by decide : 2 + 1 ≤ _)⟩)
  dsimp only [Pt.U, Pt.locs, Pt.cells, Pt.slots] at X6 l6 y6 z6 st6 hQ6
  subst l6 y6 z6
  obtain ⟨av6, rfl, N6q, Ev6, EE6, FF6⟩ := hQ6
  have N6 := Fr.app N4 N6q
  have LJ6 := LJ4.ext Ev6
  have c7 := EE2.ext Ev4
  have c8 := c7.ext Ev6
  have c9 := FF2.ext Ev4
  have c10 := c9.ext Ev6
  have c11 := EE4.ext Ev6
  have c12 := FF4.ext Ev6
  have L3 : LR Z T6.heap (.ref av6) (some jj) := (Or.inr ⟨av6, _, rfl, rfl, EE6, FF6⟩)
  have L4 : LR Z T6.heap .null none := (Or.inl ⟨rfl, rfl⟩)
  have c13 := Epd1.ext Ev2
  have c14 := c13.ext Ev4
  have c15 := c14.ext Ev6
  have c16 := Fapd1.ext Ev2
  have c17 := c16.ext Ev4
  have c18 := c17.ext Ev6
  have c19 := Fbpd1.ext Ev2
  have c20 := c19.ext Ev4
  have c21 := c20.ext Ev6
  have c22 := Fcpd1.ext Ev2
  have c23 := c22.ext Ev4
  have c24 := c23.ext Ev6
  have c25 := Fdpd1.ext Ev2
  have c26 := c25.ext Ev4
  have c27 := c26.ext Ev6
  obtain ⟨cq28, kq28, q28a, q28b, q28c⟩ := isOf hZ rfl c15
  obtain ⟨_, _, ⟨T28, L28, k28, n28⟩, -, X28, ⟨Lc28, hQ28, l28, y28, z28⟩, st28⟩ := X6.virtualBack hx (y := nm_7) (z := nm_7) hown (mvT hZ (ow hw 46 rfl)) (mvT hZ (ow hw 47 rfl)) (notFace_of_selects (args := #[]) (mvT hZ (ow hw 49 rfl))) (mvT hZ (ow hw 49 rfl)) (mvT hZ (ow hw 48 rfl)) (by decide) (backOf (W := 0) (rm7 l Z a0 hw [] old pq fx fs jr sn (.ref av2) (.ref av4) (.ref av6) .null (some (x, s')) (some jj) none oj T6.heap n0 (Nat.le_trans (Nat.le_trans (Nat.le_trans Z0 Ev2.1) Ev4.1) Ev6.1) g0_pq ⟨c15, c18, c21, c24, c27⟩ (Or.inr ⟨_, _, _, _, rfl, rfl, rfl, c8, c10, c11, c12⟩) L3 L4 LJ6) hZ (ow hw 50 rfl) (ow hw 2 rfl) (by decide) (by decide)) q28a q28c (g := (mkF m 140 #[.val (.ref pq), .val (.ref arr), .val (.long old), .second, .val (.long x), .second, .val (.long s'), .second, .val (.int ids), .val (.int fl), .val (.int (0 : Int32)), .val (.int (0 : Int32)), .val (.int (1 : Int32)), .val (.long jj), .second, .val (.long tt), .second, .val (.ref av2), .val (.ref av4), .val (.ref av6), .val .null, .unset, .unset, .unset, .unset, .unset, .unset, .unset, .unset] [.null, (.ref av6), (.ref av4), (.ref av2), (.long old), (.ref pq)])) rfl (by rw [hml]; rfl) (Steps.refl _) (argsL := [(.long old), (.ref av2), (.ref av4), (.ref av6), .null]) (rest := []) (lenOf pd_4 rfl) rfl (by show 2 * 0 + _ ≤ _; exact Nat.le_of_eq rfl) (hb hby d3_140) (fun _ _ => ⟨rfl, rfl, (by decide : 3 + 0 ≤ _), (by decide : 3 + 0 ≤ _)⟩)
  dsimp only [Pt.U, Pt.locs, Pt.cells, Pt.slots] at X28 l28 y28 z28 st28 hQ28
  subst l28 y28 z28
  obtain ⟨rfl, N28q, K28, PB28⟩ := hQ28
  have N28 := Fr.app N6 N28q
  have LN : LR Z T28.heap (own_jr oj (some jj) none (.ref av6) .null) (own_jo oj (some jj) none) := (LR_new L3 L4).keepP K28 c15 (by decide)
  have kp29 : Keep h0 T28.heap [pq] := (((((Keep.refl h0 [pq]).ext Ev2).ext Ev4).ext Ev6).trans K28 (allS (Or.inl (List.mem_of_getElem? (i := 0) rfl)) all0))
  have c30 := VA.ext Ev2
  have c31 := c30.ext Ev4
  have c32 := c31.ext Ev6
  have c33 := c32.keep K28 (ninS (Ne.symm ne_pq_arr) nin0)
  have c34 := c5.ext Ev6
  have c35 := c34.keep K28 (allS g0_pq all0)
  refine ⟨T28, _, _, _, (.ref av2), (.ref av4), (.ref av6), .null, X28, rfl, N28, ⟨PB28, LN, c33, c35, kp29⟩, fun target kt => ?_⟩
  show Steps p.tables e below (T0.setTop (mkF m 0 #[.val (.ref pq), .val (.ref arr), .val (.long old), .second, .val (.long x), .second, .val (.long s'), .second, .val (.int ids), .val (.int fl), .unset, .unset, .unset, .unset, .unset, .unset, .unset, .unset, .unset, .unset, .unset, .unset, .unset, .unset, .unset, .unset, .unset, .unset, .unset] [])) _
  refine XS.iload X0.here hx rfl (hb hby d3_0) rfl ?_
  refine XS.iconst X0.here hx rfl (hb hby d3_2) ?_
  refine XS.iand X0.here hx rfl (hb hby d3_3) rfl ?_
  refine XS.ifYes X0.here hx rfl (pc0 := 4) (pc' := 11) rfl (hb hby d3_4) rfl ((if0 _ _).trans (teq hc4).1) (by decide) (by decide) ?_
  refine XS.iconst X0.here hx rfl (hb hby d3_11) ?_
  refine XS.istore X0.here hx rfl (hb hby d3_12) rfl (l' := #[.val (.ref pq), .val (.ref arr), .val (.long old), .second, .val (.long x), .second, .val (.long s'), .second, .val (.int ids), .val (.int fl), .val (.int (0 : Int32)), .unset, .unset, .unset, .unset, .unset, .unset, .unset, .unset, .unset, .unset, .unset, .unset, .unset, .unset, .unset, .unset, .unset, .unset]) rfl ?_
  refine XS.iload X0.here hx rfl (hb hby d3_14) rfl ?_
  refine XS.iconst X0.here hx rfl (hb hby d3_16) ?_
  refine XS.iand X0.here hx rfl (hb hby d3_17) rfl ?_
  show Steps p.tables e below (T0.setTop (mkF m 18 #[.val (.ref pq), .val (.ref arr), .val (.long old), .second, .val (.long x), .second, .val (.long s'), .second, .val (.int ids), .val (.int fl), .val (.int (0 : Int32)), .unset, .unset, .unset, .unset, .unset, .unset, .unset, .unset, .unset, .unset, .unset, .unset, .unset, .unset, .unset, .unset, .unset, .unset] [(.int (fl &&& (2 : Int32)))])) _
  refine XS.ifYes X0.here hx rfl (pc0 := 18) (pc' := 25) rfl (hb hby d3_18) rfl ((if0 _ _).trans (teq hc18).1) (by decide) (by decide) ?_
  refine XS.iconst X0.here hx rfl (hb hby d3_25) ?_
  refine XS.istore X0.here hx rfl (hb hby d3_26) rfl (l' := #[.val (.ref pq), .val (.ref arr), .val (.long old), .second, .val (.long x), .second, .val (.long s'), .second, .val (.int ids), .val (.int fl), .val (.int (0 : Int32)), .val (.int (0 : Int32)), .unset, .unset, .unset, .unset, .unset, .unset, .unset, .unset, .unset, .unset, .unset, .unset, .unset, .unset, .unset, .unset, .unset]) rfl ?_
  refine XS.iload X0.here hx rfl (hb hby d3_28) rfl ?_
  refine XS.iconst X0.here hx rfl (hb hby d3_30) ?_
  refine XS.iand X0.here hx rfl (hb hby d3_31) rfl ?_
  refine XS.ifNo X0.here hx rfl (hb hby d3_32) rfl ((if0 _ _).trans (feq hc32).1) ?_
  refine XS.iconst X0.here hx rfl (hb hby d3_35) ?_
  refine XS.goto X0.here hx rfl (pc0 := 36) (pc' := 40) rfl (hb hby d3_36) (by decide) (by decide) ?_
  show Steps p.tables e below (T0.setTop (mkF m 40 #[.val (.ref pq), .val (.ref arr), .val (.long old), .second, .val (.long x), .second, .val (.long s'), .second, .val (.int ids), .val (.int fl), .val (.int (0 : Int32)), .val (.int (0 : Int32)), .unset, .unset, .unset, .unset, .unset, .unset, .unset, .unset, .unset, .unset, .unset, .unset, .unset, .unset, .unset, .unset, .unset] [(.int (1 : Int32))])) _
  refine XS.istore X0.here hx rfl (hb hby d3_40) rfl (l' := #[.val (.ref pq), .val (.ref arr), .val (.long old), .second, .val (.long x), .second, .val (.long s'), .second, .val (.int ids), .val (.int fl), .val (.int (0 : Int32)), .val (.int (0 : Int32)), .val (.int (1 : Int32)), .unset, .unset, .unset, .unset, .unset, .unset, .unset, .unset, .unset, .unset, .unset, .unset, .unset, .unset, .unset, .unset]) rfl ?_
  refine X0.ldc2Long hx hown (mvT hZ (ow hw 22 rfl)) (g := (mkF m 42 #[.val (.ref pq), .val (.ref arr), .val (.long old), .second, .val (.long x), .second, .val (.long s'), .second, .val (.int ids), .val (.int fl), .val (.int (0 : Int32)), .val (.int (0 : Int32)), .val (.int (1 : Int32)), .unset, .unset, .unset, .unset, .unset, .unset, .unset, .unset, .unset, .unset, .unset, .unset, .unset, .unset, .unset, .unset] [])) rfl (hb hby d3_42) _ ?_
  refine XS.iload X0.here hx rfl (hb hby d3_45) rfl ?_
  refine XS.iconst X0.here hx rfl (hb hby d3_47) ?_
  refine XS.iand X0.here hx rfl (hb hby d3_48) rfl ?_
  refine XS.i2l X0.here hx rfl (hb hby d3_49) rfl ?_
  refine XS.ladd X0.here hx rfl (hb hby d3_50) rfl ?_
  show Steps p.tables e below (T0.setTop (mkF m 51 #[.val (.ref pq), .val (.ref arr), .val (.long old), .second, .val (.long x), .second, .val (.long s'), .second, .val (.int ids), .val (.int fl), .val (.int (0 : Int32)), .val (.int (0 : Int32)), .val (.int (1 : Int32)), .unset, .unset, .unset, .unset, .unset, .unset, .unset, .unset, .unset, .unset, .unset, .unset, .unset, .unset, .unset, .unset] [(.long ((1000 : Int64) + ((ids &&& (3 : Int32)).toInt64)))])) _
  rw [hjj]
  refine XS.lstore X0.here hx rfl (hb hby d3_51) rfl (l' := #[.val (.ref pq), .val (.ref arr), .val (.long old), .second, .val (.long x), .second, .val (.long s'), .second, .val (.int ids), .val (.int fl), .val (.int (0 : Int32)), .val (.int (0 : Int32)), .val (.int (1 : Int32)), .val (.long jj), .second, .unset, .unset, .unset, .unset, .unset, .unset, .unset, .unset, .unset, .unset, .unset, .unset, .unset, .unset]) rfl ?_
  refine X0.ldc2Long hx hown (mvT hZ (ow hw 22 rfl)) (g := (mkF m 53 #[.val (.ref pq), .val (.ref arr), .val (.long old), .second, .val (.long x), .second, .val (.long s'), .second, .val (.int ids), .val (.int fl), .val (.int (0 : Int32)), .val (.int (0 : Int32)), .val (.int (1 : Int32)), .val (.long jj), .second, .unset, .unset, .unset, .unset, .unset, .unset, .unset, .unset, .unset, .unset, .unset, .unset, .unset, .unset] [])) rfl (hb hby d3_53) _ ?_
  show Steps p.tables e below (T0.setTop (mkF m 56 #[.val (.ref pq), .val (.ref arr), .val (.long old), .second, .val (.long x), .second, .val (.long s'), .second, .val (.int ids), .val (.int fl), .val (.int (0 : Int32)), .val (.int (0 : Int32)), .val (.int (1 : Int32)), .val (.long jj), .second, .unset, .unset, .unset, .unset, .unset, .unset, .unset, .unset, .unset, .unset, .unset, .unset, .unset, .unset] [(.long (1000 : Int64))])) _
  refine XS.iload X0.here hx rfl (hb hby d3_56) rfl ?_
  refine XS.iconst X0.here hx rfl (hb hby d3_58) ?_
  refine XS.ishr X0.here hx rfl (hb hby d3_59) rfl ?_
  refine XS.iconst X0.here hx rfl (hb hby d3_60) ?_
  refine XS.iand X0.here hx rfl (hb hby d3_61) rfl ?_
  refine XS.i2l X0.here hx rfl (hb hby d3_62) rfl ?_
  refine XS.ladd X0.here hx rfl (hb hby d3_63) rfl ?_
  show Steps p.tables e below (T0.setTop (mkF m 64 #[.val (.ref pq), .val (.ref arr), .val (.long old), .second, .val (.long x), .second, .val (.long s'), .second, .val (.int ids), .val (.int fl), .val (.int (0 : Int32)), .val (.int (0 : Int32)), .val (.int (1 : Int32)), .val (.long jj), .second, .unset, .unset, .unset, .unset, .unset, .unset, .unset, .unset, .unset, .unset, .unset, .unset, .unset, .unset] [(.long ((1000 : Int64) + (((ids >>> ((2 : Int32) &&& 31)) &&& (3 : Int32)).toInt64)))])) _
  rw [htt]
  refine XS.lstore X0.here hx rfl (hb hby d3_64) rfl (l' := #[.val (.ref pq), .val (.ref arr), .val (.long old), .second, .val (.long x), .second, .val (.long s'), .second, .val (.int ids), .val (.int fl), .val (.int (0 : Int32)), .val (.int (0 : Int32)), .val (.int (1 : Int32)), .val (.long jj), .second, .val (.long tt), .second, .unset, .unset, .unset, .unset, .unset, .unset, .unset, .unset, .unset, .unset, .unset, .unset]) rfl ?_
  refine XS.iload X0.here hx rfl (hb hby d3_66) rfl ?_
  show Steps p.tables e below (T0.setTop (mkF m 68 #[.val (.ref pq), .val (.ref arr), .val (.long old), .second, .val (.long x), .second, .val (.long s'), .second, .val (.int ids), .val (.int fl), .val (.int (0 : Int32)), .val (.int (0 : Int32)), .val (.int (1 : Int32)), .val (.long jj), .second, .val (.long tt), .second, .unset, .unset, .unset, .unset, .unset, .unset, .unset, .unset, .unset, .unset, .unset, .unset] [(.int (0 : Int32))])) _
  refine XS.ifYes X0.here hx rfl (pc0 := 68) (pc' := 75) rfl (hb hby d3_68) rfl ((if0 _ _).trans (teq (rfl : (0 : Int32) = (0 : Int32))).1) (by decide) (by decide) ?_
  refine XS.lload X0.here hx rfl (hb hby d3_75) rfl ?_
  refine st2 _ ?_
  refine XS.astore X2.here hx rfl (hb hby d3_80) rfl rfl (l' := #[.val (.ref pq), .val (.ref arr), .val (.long old), .second, .val (.long x), .second, .val (.long s'), .second, .val (.int ids), .val (.int fl), .val (.int (0 : Int32)), .val (.int (0 : Int32)), .val (.int (1 : Int32)), .val (.long jj), .second, .val (.long tt), .second, .val (.ref av2), .unset, .unset, .unset, .unset, .unset, .unset, .unset, .unset, .unset, .unset, .unset]) rfl ?_
  refine XS.iload X2.here hx rfl (hb hby d3_82) rfl ?_
  refine XS.ifYes X2.here hx rfl (pc0 := 84) (pc' := 91) rfl (hb hby d3_84) rfl ((if0 _ _).trans (teq (rfl : (0 : Int32) = (0 : Int32))).1) (by decide) (by decide) ?_
  refine XS.lload X2.here hx rfl (hb hby d3_91) rfl ?_
  refine st4 _ ?_
  refine XS.astore X4.here hx rfl (hb hby d3_96) rfl rfl (l' := #[.val (.ref pq), .val (.ref arr), .val (.long old), .second, .val (.long x), .second, .val (.long s'), .second, .val (.int ids), .val (.int fl), .val (.int (0 : Int32)), .val (.int (0 : Int32)), .val (.int (1 : Int32)), .val (.long jj), .second, .val (.long tt), .second, .val (.ref av2), .val (.ref av4), .unset, .unset, .unset, .unset, .unset, .unset, .unset, .unset, .unset, .unset]) rfl ?_
  show Steps p.tables e below (T4.setTop (mkF m 98 #[.val (.ref pq), .val (.ref arr), .val (.long old), .second, .val (.long x), .second, .val (.long s'), .second, .val (.int ids), .val (.int fl), .val (.int (0 : Int32)), .val (.int (0 : Int32)), .val (.int (1 : Int32)), .val (.long jj), .second, .val (.long tt), .second, .val (.ref av2), .val (.ref av4), .unset, .unset, .unset, .unset, .unset, .unset, .unset, .unset, .unset, .unset] [])) _
  refine XS.iload X4.here hx rfl (hb hby d3_98) rfl ?_
  refine XS.ifYes X4.here hx rfl (pc0 := 100) (pc' := 107) rfl (hb hby d3_100) rfl ((if0 _ _).trans (teq (rfl : (0 : Int32) = (0 : Int32))).1) (by decide) (by decide) ?_
  refine XS.lload X4.here hx rfl (hb hby d3_107) rfl ?_
  refine st6 _ ?_
  refine XS.astore X6.here hx rfl (hb hby d3_112) rfl rfl (l' := #[.val (.ref pq), .val (.ref arr), .val (.long old), .second, .val (.long x), .second, .val (.long s'), .second, .val (.int ids), .val (.int fl), .val (.int (0 : Int32)), .val (.int (0 : Int32)), .val (.int (1 : Int32)), .val (.long jj), .second, .val (.long tt), .second, .val (.ref av2), .val (.ref av4), .val (.ref av6), .unset, .unset, .unset, .unset, .unset, .unset, .unset, .unset, .unset]) rfl ?_
  refine XS.iload X6.here hx rfl (hb hby d3_114) rfl ?_
  refine XS.ifNo X6.here hx rfl (hb hby d3_116) rfl ((if0 _ _).trans (feq ((by decide) : ¬ ((1 : Int32) = (0 : Int32)))).1) ?_
  refine XS.aconstNull X6.here hx rfl (hb hby d3_119) ?_
  refine XS.goto X6.here hx rfl (pc0 := 120) (pc' := 128) rfl (hb hby d3_120) (by decide) (by decide) ?_
  show Steps p.tables e below (T6.setTop (mkF m 128 #[.val (.ref pq), .val (.ref arr), .val (.long old), .second, .val (.long x), .second, .val (.long s'), .second, .val (.int ids), .val (.int fl), .val (.int (0 : Int32)), .val (.int (0 : Int32)), .val (.int (1 : Int32)), .val (.long jj), .second, .val (.long tt), .second, .val (.ref av2), .val (.ref av4), .val (.ref av6), .unset, .unset, .unset, .unset, .unset, .unset, .unset, .unset, .unset] [.null])) _
  refine XS.astore X6.here hx rfl (hb hby d3_128) rfl rfl (l' := #[.val (.ref pq), .val (.ref arr), .val (.long old), .second, .val (.long x), .second, .val (.long s'), .second, .val (.int ids), .val (.int fl), .val (.int (0 : Int32)), .val (.int (0 : Int32)), .val (.int (1 : Int32)), .val (.long jj), .second, .val (.long tt), .second, .val (.ref av2), .val (.ref av4), .val (.ref av6), .val .null, .unset, .unset, .unset, .unset, .unset, .unset, .unset, .unset]) rfl ?_
  refine XS.aloadN X6.here hx rfl (hb hby d3_130) rfl rfl ?_
  refine XS.lloadN X6.here hx rfl (hb hby d3_131) rfl ?_
  refine XS.aload X6.here hx rfl (hb hby d3_132) rfl rfl ?_
  refine XS.aload X6.here hx rfl (hb hby d3_134) rfl rfl ?_
  refine XS.aload X6.here hx rfl (hb hby d3_136) rfl rfl ?_
  refine XS.aload X6.here hx rfl (hb hby d3_138) rfl rfl ?_
  refine st28.trans ?_
  exact kt
theorem d3_21 : decode method_4_code 21 = .ok (.iconst 1, 1) := by decide +kernel
theorem d3_22 : decode method_4_code 22 = .ok (.goto 4, 3) := by decide +kernel
theorem d3_103 : decode method_4_code 103 = .ok (.aconst_null, 1) := by decide +kernel
theorem d3_104 : decode method_4_code 104 = .ok (.goto 8, 3) := by decide +kernel
set_option maxRecDepth 65536 in
set_option maxHeartbeats 40000000 in
theorem s1_010 {p : Program} {l : Launch} {e : Env} {s : State} {m : MethodId} {args : Array Value} {below : List Frame} {meth : Method} {c : Code} {T0 : State} {Z : State} {a0 : Array Value} {h0 : Heap} {n0 : Nat} (pq : Addr) (arr : Addr) (k : ClassId) (cb : Addr) (old : Int64) (x : Int64) (s' : Int64) (ids : Int32) (fl : Int32) (fx : Int64) (fs : Int64) (jr : Value) (sn : Value) (oj : Option Int64) (v2 : Int64) (v3 : Int64) (jj : Int64) (tt : Int64)
    (X0 : Stand p l e rr_4_4_4_53 s m args below meth c T0 [] 0 0) (hx : p.tables.exec = Jvm.exec) (hZ : Z.Warmed39 s.vm) (hw : ∀ d ∈ tables_1, d.before a0 Z = true) (hby : c.code = method_4_code) (hml : c.maxLocals = 29) (hown : s.vm.findClass "com/example/keyed_work_queue/keyedworkqueue/PendingFoundPinLaw" = some m.cls) (e0 : T0.heap = h0) (Z0 : n0 ≤ h0.size) (N0 : Fr n0 []) (hjj : ((1000 : Int64) + ((ids &&& (3 : Int32)).toInt64)) = jj) (htt : ((1000 : Int64) + (((ids >>> ((2 : Int32) &&& 31)) &&& (3 : Int32)).toInt64)) = tt) (g0_pq : n0 ≤ pq) (g0_arr : n0 ≤ arr) (PA : PdAt Z h0 pq fx fs jr sn) (O0 : Old Z n0 h0) (SC : Sta Z Z.heap "java/lang/Long$LongCache" "cache" "[Ljava/lang/Long;" (.ref cb)) (LC : LCache Z cb) (LJ : LR Z h0 jr oj) (VA : Arv Z h0 arr k .long (4 : Int32) [(.long fx), (.long fs), (.long v2), (.long v3)] (.long (0 : Int64))) (hc4 : (fl &&& (1 : Int32)) = (0 : Int32)) (hc18 : ¬ ((fl &&& (2 : Int32)) = (0 : Int32))) (hc32 : (fl &&& (4 : Int32)) = (0 : Int32)) :
    ∃ (T' : State) (h' : Heap) (L' : List Loc) (jr' r1 r2 r3 r4 : Value), Stand p l e rr_4_4_4_53 s m args below meth c T' L' 3 3 ∧ T'.heap = h' ∧ Fr n0 L' ∧ (PdAt Z h' pq (own_fl oj (own_or none (some tt)) (fx, fs) (own_cand old (some (x, s')))).1 (own_fl oj (own_or none (some tt)) (fx, fs) (own_cand old (some (x, s')))).2 jr' (.int (1 : Int32)) ∧ LR Z h' jr' (own_jo oj none (some tt)) ∧ Arv Z h' arr k .long (4 : Int32) [(.long fx), (.long fs), (.long v2), (.long v3)] (.long (0 : Int64)) ∧ Old Z n0 h' ∧ Keep h0 h' [pq]) ∧
      ∀ target, Steps p.tables e below (T'.setTop (mkF m 143 #[.val (.ref pq), .val (.ref arr), .val (.long old), .second, .val (.long x), .second, .val (.long s'), .second, .val (.int ids), .val (.int fl), .val (.int (0 : Int32)), .val (.int (1 : Int32)), .val (.int (0 : Int32)), .val (.long jj), .second, .val (.long tt), .second, .val r1, .val r2, .val r3, .val r4, .unset, .unset, .unset, .unset, .unset, .unset, .unset, .unset] [])) target → Steps p.tables e below (T0.setTop (mkF m 0 #[.val (.ref pq), .val (.ref arr), .val (.long old), .second, .val (.long x), .second, .val (.long s'), .second, .val (.int ids), .val (.int fl), .unset, .unset, .unset, .unset, .unset, .unset, .unset, .unset, .unset, .unset, .unset, .unset, .unset, .unset, .unset, .unset, .unset, .unset, .unset] [])) target := by
  obtain ⟨Epd1, Fapd1, Fbpd1, Fcpd1, Fdpd1⟩ := PA
  have ne_pq_arr : pq ≠ arr := own_pe Epd1 VA (ow hw 1 rfl)
  obtain ⟨_, _, ⟨T2, L2, k2, n2⟩, -, X2, ⟨Lc2, hQ2, l2, y2, z2⟩, st2⟩ := Jvm.LawKit.callS X0 hx (y := nm_4) hown (mvT hZ (ow hw 23 rfl)) (mvT hZ (ow hw 24 rfl)) (mvT hZ (ow hw 25 rfl)) (mvT hZ (ow hw 26 rfl)) (by decide) (backOf (W := 0) (rm4 l Z a0 hw [] x cb h0 n0 Z0 O0 SC LC) hZ (ow hw 26 rfl) (ow hw 25 rfl) (by decide) (by decide)) (g := (mkF m 77 #[.val (.ref pq), .val (.ref arr), .val (.long old), .second, .val (.long x), .second, .val (.long s'), .second, .val (.int ids), .val (.int fl), .val (.int (0 : Int32)), .val (.int (1 : Int32)), .val (.int (0 : Int32)), .val (.long jj), .second, .val (.long tt), .second, .unset, .unset, .unset, .unset, .unset, .unset, .unset, .unset, .unset, .unset, .unset, .unset] [(.long x)])) rfl (by rw [hml]; rfl) (argsL := [(.long x)]) (rest := []) (lenOf pd_2 rfl) rfl (by show 2 * 0 + _ ≤ _; exact Nat.le_of_eq rfl) (hb hby d3_77) (fun _ _ => ⟨rfl, e0, (by decide : 0 + 1 ≤ _), (by decide : 0 + 1 ≤ _)⟩)
  dsimp only [Pt.U, Pt.locs, Pt.cells, Pt.slots] at X2 l2 y2 z2 st2 hQ2
  subst l2 y2 z2
  obtain ⟨av2, rfl, N2q, Ev2, EE2, FF2⟩ := hQ2
  have N2 := Fr.app N0 N2q
  have LJ2 := LJ.ext Ev2
  have c3 := O0.ext Ev2
  obtain ⟨_, _, ⟨T4, L4, k4, n4⟩, -, X4, ⟨Lc4, hQ4, l4, y4, z4⟩, st4⟩ := Jvm.LawKit.callS X2 hx (y := nm_4) hown (mvT hZ (ow hw 23 rfl)) (mvT hZ (ow hw 24 rfl)) (mvT hZ (ow hw 25 rfl)) (mvT hZ (ow hw 26 rfl)) (by decide) (backOf (W := 0) (rm4 l Z a0 hw [] s' cb T2.heap n0 (Nat.le_trans Z0 Ev2.1) c3 SC LC) hZ (ow hw 26 rfl) (ow hw 25 rfl) (by decide) (by decide)) (g := (mkF m 93 #[.val (.ref pq), .val (.ref arr), .val (.long old), .second, .val (.long x), .second, .val (.long s'), .second, .val (.int ids), .val (.int fl), .val (.int (0 : Int32)), .val (.int (1 : Int32)), .val (.int (0 : Int32)), .val (.long jj), .second, .val (.long tt), .second, .val (.ref av2), .unset, .unset, .unset, .unset, .unset, .unset, .unset, .unset, .unset, .unset, .unset] [(.long s')])) rfl (by rw [hml]; rfl) (argsL := [(.long s')]) (rest := []) (lenOf pd_2 rfl) rfl (by show 2 * 0 + _ ≤ _; exact Nat.le_of_eq rfl) (hb hby d3_93) (fun _ _ => ⟨rfl, rfl, (by decide : 1 + 1 ≤ _), (by decide : 1 + 1 ≤ _)⟩)
  dsimp only [Pt.U, Pt.locs, Pt.cells, Pt.slots] at X4 l4 y4 z4 st4 hQ4
  subst l4 y4 z4
  obtain ⟨av4, rfl, N4q, Ev4, EE4, FF4⟩ := hQ4
  have N4 := Fr.app N2 N4q
  have LJ4 := LJ2.ext Ev4
  have c5 := c3.ext Ev4
  obtain ⟨_, _, ⟨T6, L6, k6, n6⟩, -, X6, ⟨Lc6, hQ6, l6, y6, z6⟩, st6⟩ := Jvm.LawKit.callS X4 hx (y := nm_4) hown (mvT hZ (ow hw 23 rfl)) (mvT hZ (ow hw 24 rfl)) (mvT hZ (ow hw 25 rfl)) (mvT hZ (ow hw 26 rfl)) (by decide) (backOf (W := 0) (rm4 l Z a0 hw [] tt cb T4.heap n0 (Nat.le_trans (Nat.le_trans Z0 Ev2.1) Ev4.1) c5 SC LC) hZ (ow hw 26 rfl) (ow hw 25 rfl) (by decide) (by decide)) (g := (mkF m 125 #[.val (.ref pq), .val (.ref arr), .val (.long old), .second, .val (.long x), .second, .val (.long s'), .second, .val (.int ids), .val (.int fl), .val (.int (0 : Int32)), .val (.int (1 : Int32)), .val (.int (0 : Int32)), .val (.long jj), .second, .val (.long tt), .second, .val (.ref av2), .val (.ref av4), .val .null, .unset, .unset, .unset, .unset, .unset, .unset, .unset, .unset, .unset] [(.long tt)])) rfl (by rw [hml]; rfl) (argsL := [(.long tt)]) (rest := []) (lenOf pd_2 rfl) rfl (by show 2 * 0 + _ ≤ _; exact Nat.le_of_eq rfl) (hb hby d3_125) (fun _ _ => ⟨rfl, rfl, (by decide : 2 + 1 ≤ _), (by decide : 2 + 1 ≤ _)⟩)
  dsimp only [Pt.U, Pt.locs, Pt.cells, Pt.slots] at X6 l6 y6 z6 st6 hQ6
  subst l6 y6 z6
  obtain ⟨av6, rfl, N6q, Ev6, EE6, FF6⟩ := hQ6
  have N6 := Fr.app N4 N6q
  have LJ6 := LJ4.ext Ev6
  have c7 := EE2.ext Ev4
  have c8 := c7.ext Ev6
  have c9 := FF2.ext Ev4
  have c10 := c9.ext Ev6
  have c11 := EE4.ext Ev6
  have c12 := FF4.ext Ev6
  have L3 : LR Z T6.heap .null none := (Or.inl ⟨rfl, rfl⟩)
  have L4 : LR Z T6.heap (.ref av6) (some tt) := (Or.inr ⟨av6, _, rfl, rfl, EE6, FF6⟩)
  have c13 := Epd1.ext Ev2
  have c14 := c13.ext Ev4
  have c15 := c14.ext Ev6
  have c16 := Fapd1.ext Ev2
  have c17 := c16.ext Ev4
  have c18 := c17.ext Ev6
  have c19 := Fbpd1.ext Ev2
  have c20 := c19.ext Ev4
  have c21 := c20.ext Ev6
  have c22 := Fcpd1.ext Ev2
  have c23 := c22.ext Ev4
  have c24 := c23.ext Ev6
  have c25 := Fdpd1.ext Ev2
  have c26 := c25.ext Ev4
  have c27 := c26.ext Ev6
  obtain ⟨cq28, kq28, q28a, q28b, q28c⟩ := isOf hZ rfl c15
  obtain ⟨_, _, ⟨T28, L28, k28, n28⟩, -, X28, ⟨Lc28, hQ28, l28, y28, z28⟩, st28⟩ := X6.virtualBack hx (y := nm_7) (z := nm_7) hown (mvT hZ (ow hw 46 rfl)) (mvT hZ (ow hw 47 rfl)) (notFace_of_selects (args := #[]) (mvT hZ (ow hw 49 rfl))) (mvT hZ (ow hw 49 rfl)) (mvT hZ (ow hw 48 rfl)) (by decide) (backOf (W := 0) (rm7 l Z a0 hw [] old pq fx fs jr sn (.ref av2) (.ref av4) .null (.ref av6) (some (x, s')) none (some tt) oj T6.heap n0 (Nat.le_trans (Nat.le_trans (Nat.le_trans Z0 Ev2.1) Ev4.1) Ev6.1) g0_pq ⟨c15, c18, c21, c24, c27⟩ (Or.inr ⟨_, _, _, _, rfl, rfl, rfl, c8, c10, c11, c12⟩) L3 L4 LJ6) hZ (ow hw 50 rfl) (ow hw 2 rfl) (by decide) (by decide)) q28a q28c (g := (mkF m 140 #[.val (.ref pq), .val (.ref arr), .val (.long old), .second, .val (.long x), .second, .val (.long s'), .second, .val (.int ids), .val (.int fl), .val (.int (0 : Int32)), .val (.int (1 : Int32)), .val (.int (0 : Int32)), .val (.long jj), .second, .val (.long tt), .second, .val (.ref av2), .val (.ref av4), .val .null, .val (.ref av6), .unset, .unset, .unset, .unset, .unset, .unset, .unset, .unset] [(.ref av6), .null, (.ref av4), (.ref av2), (.long old), (.ref pq)])) rfl (by rw [hml]; rfl) (Steps.refl _) (argsL := [(.long old), (.ref av2), (.ref av4), .null, (.ref av6)]) (rest := []) (lenOf pd_4 rfl) rfl (by show 2 * 0 + _ ≤ _; exact Nat.le_of_eq rfl) (hb hby d3_140) (fun _ _ => ⟨rfl, rfl, (by decide : 3 + 0 ≤ _), (by decide : 3 + 0 ≤ _)⟩)
  dsimp only [Pt.U, Pt.locs, Pt.cells, Pt.slots] at X28 l28 y28 z28 st28 hQ28
  subst l28 y28 z28
  obtain ⟨rfl, N28q, K28, PB28⟩ := hQ28
  have N28 := Fr.app N6 N28q
  have LN : LR Z T28.heap (own_jr oj none (some tt) .null (.ref av6)) (own_jo oj none (some tt)) := (LR_new L3 L4).keepP K28 c15 (by decide)
  have kp29 : Keep h0 T28.heap [pq] := (((((Keep.refl h0 [pq]).ext Ev2).ext Ev4).ext Ev6).trans K28 (allS (Or.inl (List.mem_of_getElem? (i := 0) rfl)) all0))
  have c30 := VA.ext Ev2
  have c31 := c30.ext Ev4
  have c32 := c31.ext Ev6
  have c33 := c32.keep K28 (ninS (Ne.symm ne_pq_arr) nin0)
  have c34 := c5.ext Ev6
  have c35 := c34.keep K28 (allS g0_pq all0)
  refine ⟨T28, _, _, _, (.ref av2), (.ref av4), .null, (.ref av6), X28, rfl, N28, ⟨PB28, LN, c33, c35, kp29⟩, fun target kt => ?_⟩
  show Steps p.tables e below (T0.setTop (mkF m 0 #[.val (.ref pq), .val (.ref arr), .val (.long old), .second, .val (.long x), .second, .val (.long s'), .second, .val (.int ids), .val (.int fl), .unset, .unset, .unset, .unset, .unset, .unset, .unset, .unset, .unset, .unset, .unset, .unset, .unset, .unset, .unset, .unset, .unset, .unset, .unset] [])) _
  refine XS.iload X0.here hx rfl (hb hby d3_0) rfl ?_
  refine XS.iconst X0.here hx rfl (hb hby d3_2) ?_
  refine XS.iand X0.here hx rfl (hb hby d3_3) rfl ?_
  refine XS.ifYes X0.here hx rfl (pc0 := 4) (pc' := 11) rfl (hb hby d3_4) rfl ((if0 _ _).trans (teq hc4).1) (by decide) (by decide) ?_
  refine XS.iconst X0.here hx rfl (hb hby d3_11) ?_
  refine XS.istore X0.here hx rfl (hb hby d3_12) rfl (l' := #[.val (.ref pq), .val (.ref arr), .val (.long old), .second, .val (.long x), .second, .val (.long s'), .second, .val (.int ids), .val (.int fl), .val (.int (0 : Int32)), .unset, .unset, .unset, .unset, .unset, .unset, .unset, .unset, .unset, .unset, .unset, .unset, .unset, .unset, .unset, .unset, .unset, .unset]) rfl ?_
  refine XS.iload X0.here hx rfl (hb hby d3_14) rfl ?_
  refine XS.iconst X0.here hx rfl (hb hby d3_16) ?_
  refine XS.iand X0.here hx rfl (hb hby d3_17) rfl ?_
  show Steps p.tables e below (T0.setTop (mkF m 18 #[.val (.ref pq), .val (.ref arr), .val (.long old), .second, .val (.long x), .second, .val (.long s'), .second, .val (.int ids), .val (.int fl), .val (.int (0 : Int32)), .unset, .unset, .unset, .unset, .unset, .unset, .unset, .unset, .unset, .unset, .unset, .unset, .unset, .unset, .unset, .unset, .unset, .unset] [(.int (fl &&& (2 : Int32)))])) _
  refine XS.ifNo X0.here hx rfl (hb hby d3_18) rfl ((if0 _ _).trans (feq hc18).1) ?_
  refine XS.iconst X0.here hx rfl (hb hby d3_21) ?_
  refine XS.goto X0.here hx rfl (pc0 := 22) (pc' := 26) rfl (hb hby d3_22) (by decide) (by decide) ?_
  refine XS.istore X0.here hx rfl (hb hby d3_26) rfl (l' := #[.val (.ref pq), .val (.ref arr), .val (.long old), .second, .val (.long x), .second, .val (.long s'), .second, .val (.int ids), .val (.int fl), .val (.int (0 : Int32)), .val (.int (1 : Int32)), .unset, .unset, .unset, .unset, .unset, .unset, .unset, .unset, .unset, .unset, .unset, .unset, .unset, .unset, .unset, .unset, .unset]) rfl ?_
  refine XS.iload X0.here hx rfl (hb hby d3_28) rfl ?_
  refine XS.iconst X0.here hx rfl (hb hby d3_30) ?_
  refine XS.iand X0.here hx rfl (hb hby d3_31) rfl ?_
  refine XS.ifYes X0.here hx rfl (pc0 := 32) (pc' := 39) rfl (hb hby d3_32) rfl ((if0 _ _).trans (teq hc32).1) (by decide) (by decide) ?_
  refine XS.iconst X0.here hx rfl (hb hby d3_39) ?_
  show Steps p.tables e below (T0.setTop (mkF m 40 #[.val (.ref pq), .val (.ref arr), .val (.long old), .second, .val (.long x), .second, .val (.long s'), .second, .val (.int ids), .val (.int fl), .val (.int (0 : Int32)), .val (.int (1 : Int32)), .unset, .unset, .unset, .unset, .unset, .unset, .unset, .unset, .unset, .unset, .unset, .unset, .unset, .unset, .unset, .unset, .unset] [(.int (0 : Int32))])) _
  refine XS.istore X0.here hx rfl (hb hby d3_40) rfl (l' := #[.val (.ref pq), .val (.ref arr), .val (.long old), .second, .val (.long x), .second, .val (.long s'), .second, .val (.int ids), .val (.int fl), .val (.int (0 : Int32)), .val (.int (1 : Int32)), .val (.int (0 : Int32)), .unset, .unset, .unset, .unset, .unset, .unset, .unset, .unset, .unset, .unset, .unset, .unset, .unset, .unset, .unset, .unset]) rfl ?_
  refine X0.ldc2Long hx hown (mvT hZ (ow hw 22 rfl)) (g := (mkF m 42 #[.val (.ref pq), .val (.ref arr), .val (.long old), .second, .val (.long x), .second, .val (.long s'), .second, .val (.int ids), .val (.int fl), .val (.int (0 : Int32)), .val (.int (1 : Int32)), .val (.int (0 : Int32)), .unset, .unset, .unset, .unset, .unset, .unset, .unset, .unset, .unset, .unset, .unset, .unset, .unset, .unset, .unset, .unset] [])) rfl (hb hby d3_42) _ ?_
  refine XS.iload X0.here hx rfl (hb hby d3_45) rfl ?_
  refine XS.iconst X0.here hx rfl (hb hby d3_47) ?_
  refine XS.iand X0.here hx rfl (hb hby d3_48) rfl ?_
  refine XS.i2l X0.here hx rfl (hb hby d3_49) rfl ?_
  refine XS.ladd X0.here hx rfl (hb hby d3_50) rfl ?_
  show Steps p.tables e below (T0.setTop (mkF m 51 #[.val (.ref pq), .val (.ref arr), .val (.long old), .second, .val (.long x), .second, .val (.long s'), .second, .val (.int ids), .val (.int fl), .val (.int (0 : Int32)), .val (.int (1 : Int32)), .val (.int (0 : Int32)), .unset, .unset, .unset, .unset, .unset, .unset, .unset, .unset, .unset, .unset, .unset, .unset, .unset, .unset, .unset, .unset] [(.long ((1000 : Int64) + ((ids &&& (3 : Int32)).toInt64)))])) _
  rw [hjj]
  refine XS.lstore X0.here hx rfl (hb hby d3_51) rfl (l' := #[.val (.ref pq), .val (.ref arr), .val (.long old), .second, .val (.long x), .second, .val (.long s'), .second, .val (.int ids), .val (.int fl), .val (.int (0 : Int32)), .val (.int (1 : Int32)), .val (.int (0 : Int32)), .val (.long jj), .second, .unset, .unset, .unset, .unset, .unset, .unset, .unset, .unset, .unset, .unset, .unset, .unset, .unset, .unset]) rfl ?_
  refine X0.ldc2Long hx hown (mvT hZ (ow hw 22 rfl)) (g := (mkF m 53 #[.val (.ref pq), .val (.ref arr), .val (.long old), .second, .val (.long x), .second, .val (.long s'), .second, .val (.int ids), .val (.int fl), .val (.int (0 : Int32)), .val (.int (1 : Int32)), .val (.int (0 : Int32)), .val (.long jj), .second, .unset, .unset, .unset, .unset, .unset, .unset, .unset, .unset, .unset, .unset, .unset, .unset, .unset, .unset] [])) rfl (hb hby d3_53) _ ?_
  show Steps p.tables e below (T0.setTop (mkF m 56 #[.val (.ref pq), .val (.ref arr), .val (.long old), .second, .val (.long x), .second, .val (.long s'), .second, .val (.int ids), .val (.int fl), .val (.int (0 : Int32)), .val (.int (1 : Int32)), .val (.int (0 : Int32)), .val (.long jj), .second, .unset, .unset, .unset, .unset, .unset, .unset, .unset, .unset, .unset, .unset, .unset, .unset, .unset, .unset] [(.long (1000 : Int64))])) _
  refine XS.iload X0.here hx rfl (hb hby d3_56) rfl ?_
  refine XS.iconst X0.here hx rfl (hb hby d3_58) ?_
  refine XS.ishr X0.here hx rfl (hb hby d3_59) rfl ?_
  refine XS.iconst X0.here hx rfl (hb hby d3_60) ?_
  refine XS.iand X0.here hx rfl (hb hby d3_61) rfl ?_
  refine XS.i2l X0.here hx rfl (hb hby d3_62) rfl ?_
  refine XS.ladd X0.here hx rfl (hb hby d3_63) rfl ?_
  show Steps p.tables e below (T0.setTop (mkF m 64 #[.val (.ref pq), .val (.ref arr), .val (.long old), .second, .val (.long x), .second, .val (.long s'), .second, .val (.int ids), .val (.int fl), .val (.int (0 : Int32)), .val (.int (1 : Int32)), .val (.int (0 : Int32)), .val (.long jj), .second, .unset, .unset, .unset, .unset, .unset, .unset, .unset, .unset, .unset, .unset, .unset, .unset, .unset, .unset] [(.long ((1000 : Int64) + (((ids >>> ((2 : Int32) &&& 31)) &&& (3 : Int32)).toInt64)))])) _
  rw [htt]
  refine XS.lstore X0.here hx rfl (hb hby d3_64) rfl (l' := #[.val (.ref pq), .val (.ref arr), .val (.long old), .second, .val (.long x), .second, .val (.long s'), .second, .val (.int ids), .val (.int fl), .val (.int (0 : Int32)), .val (.int (1 : Int32)), .val (.int (0 : Int32)), .val (.long jj), .second, .val (.long tt), .second, .unset, .unset, .unset, .unset, .unset, .unset, .unset, .unset, .unset, .unset, .unset, .unset]) rfl ?_
  refine XS.iload X0.here hx rfl (hb hby d3_66) rfl ?_
  show Steps p.tables e below (T0.setTop (mkF m 68 #[.val (.ref pq), .val (.ref arr), .val (.long old), .second, .val (.long x), .second, .val (.long s'), .second, .val (.int ids), .val (.int fl), .val (.int (0 : Int32)), .val (.int (1 : Int32)), .val (.int (0 : Int32)), .val (.long jj), .second, .val (.long tt), .second, .unset, .unset, .unset, .unset, .unset, .unset, .unset, .unset, .unset, .unset, .unset, .unset] [(.int (0 : Int32))])) _
  refine XS.ifYes X0.here hx rfl (pc0 := 68) (pc' := 75) rfl (hb hby d3_68) rfl ((if0 _ _).trans (teq (rfl : (0 : Int32) = (0 : Int32))).1) (by decide) (by decide) ?_
  refine XS.lload X0.here hx rfl (hb hby d3_75) rfl ?_
  refine st2 _ ?_
  refine XS.astore X2.here hx rfl (hb hby d3_80) rfl rfl (l' := #[.val (.ref pq), .val (.ref arr), .val (.long old), .second, .val (.long x), .second, .val (.long s'), .second, .val (.int ids), .val (.int fl), .val (.int (0 : Int32)), .val (.int (1 : Int32)), .val (.int (0 : Int32)), .val (.long jj), .second, .val (.long tt), .second, .val (.ref av2), .unset, .unset, .unset, .unset, .unset, .unset, .unset, .unset, .unset, .unset, .unset]) rfl ?_
  refine XS.iload X2.here hx rfl (hb hby d3_82) rfl ?_
  refine XS.ifYes X2.here hx rfl (pc0 := 84) (pc' := 91) rfl (hb hby d3_84) rfl ((if0 _ _).trans (teq (rfl : (0 : Int32) = (0 : Int32))).1) (by decide) (by decide) ?_
  refine XS.lload X2.here hx rfl (hb hby d3_91) rfl ?_
  refine st4 _ ?_
  refine XS.astore X4.here hx rfl (hb hby d3_96) rfl rfl (l' := #[.val (.ref pq), .val (.ref arr), .val (.long old), .second, .val (.long x), .second, .val (.long s'), .second, .val (.int ids), .val (.int fl), .val (.int (0 : Int32)), .val (.int (1 : Int32)), .val (.int (0 : Int32)), .val (.long jj), .second, .val (.long tt), .second, .val (.ref av2), .val (.ref av4), .unset, .unset, .unset, .unset, .unset, .unset, .unset, .unset, .unset, .unset]) rfl ?_
  show Steps p.tables e below (T4.setTop (mkF m 98 #[.val (.ref pq), .val (.ref arr), .val (.long old), .second, .val (.long x), .second, .val (.long s'), .second, .val (.int ids), .val (.int fl), .val (.int (0 : Int32)), .val (.int (1 : Int32)), .val (.int (0 : Int32)), .val (.long jj), .second, .val (.long tt), .second, .val (.ref av2), .val (.ref av4), .unset, .unset, .unset, .unset, .unset, .unset, .unset, .unset, .unset, .unset] [])) _
  refine XS.iload X4.here hx rfl (hb hby d3_98) rfl ?_
  refine XS.ifNo X4.here hx rfl (hb hby d3_100) rfl ((if0 _ _).trans (feq ((by decide) : ¬ ((1 : Int32) = (0 : Int32)))).1) ?_
  refine XS.aconstNull X4.here hx rfl (hb hby d3_103) ?_
  refine XS.goto X4.here hx rfl (pc0 := 104) (pc' := 112) rfl (hb hby d3_104) (by decide) (by decide) ?_
  refine XS.astore X4.here hx rfl (hb hby d3_112) rfl rfl (l' := #[.val (.ref pq), .val (.ref arr), .val (.long old), .second, .val (.long x), .second, .val (.long s'), .second, .val (.int ids), .val (.int fl), .val (.int (0 : Int32)), .val (.int (1 : Int32)), .val (.int (0 : Int32)), .val (.long jj), .second, .val (.long tt), .second, .val (.ref av2), .val (.ref av4), .val .null, .unset, .unset, .unset, .unset, .unset, .unset, .unset, .unset, .unset]) rfl ?_
  refine XS.iload X4.here hx rfl (hb hby d3_114) rfl ?_
  refine XS.ifYes X4.here hx rfl (pc0 := 116) (pc' := 123) rfl (hb hby d3_116) rfl ((if0 _ _).trans (teq (rfl : (0 : Int32) = (0 : Int32))).1) (by decide) (by decide) ?_
  refine XS.lload X4.here hx rfl (hb hby d3_123) rfl ?_
  refine st6 _ ?_
  show Steps p.tables e below (T6.setTop (mkF m 128 #[.val (.ref pq), .val (.ref arr), .val (.long old), .second, .val (.long x), .second, .val (.long s'), .second, .val (.int ids), .val (.int fl), .val (.int (0 : Int32)), .val (.int (1 : Int32)), .val (.int (0 : Int32)), .val (.long jj), .second, .val (.long tt), .second, .val (.ref av2), .val (.ref av4), .val .null, .unset, .unset, .unset, .unset, .unset, .unset, .unset, .unset, .unset] [(.ref av6)])) _
  refine XS.astore X6.here hx rfl (hb hby d3_128) rfl rfl (l' := #[.val (.ref pq), .val (.ref arr), .val (.long old), .second, .val (.long x), .second, .val (.long s'), .second, .val (.int ids), .val (.int fl), .val (.int (0 : Int32)), .val (.int (1 : Int32)), .val (.int (0 : Int32)), .val (.long jj), .second, .val (.long tt), .second, .val (.ref av2), .val (.ref av4), .val .null, .val (.ref av6), .unset, .unset, .unset, .unset, .unset, .unset, .unset, .unset]) rfl ?_
  refine XS.aloadN X6.here hx rfl (hb hby d3_130) rfl rfl ?_
  refine XS.lloadN X6.here hx rfl (hb hby d3_131) rfl ?_
  refine XS.aload X6.here hx rfl (hb hby d3_132) rfl rfl ?_
  refine XS.aload X6.here hx rfl (hb hby d3_134) rfl rfl ?_
  refine XS.aload X6.here hx rfl (hb hby d3_136) rfl rfl ?_
  refine XS.aload X6.here hx rfl (hb hby d3_138) rfl rfl ?_
  refine st28.trans ?_
  exact kt
set_option maxRecDepth 65536 in
set_option maxHeartbeats 40000000 in
theorem s1_011 {p : Program} {l : Launch} {e : Env} {s : State} {m : MethodId} {args : Array Value} {below : List Frame} {meth : Method} {c : Code} {T0 : State} {Z : State} {a0 : Array Value} {h0 : Heap} {n0 : Nat} (pq : Addr) (arr : Addr) (k : ClassId) (cb : Addr) (old : Int64) (x : Int64) (s' : Int64) (ids : Int32) (fl : Int32) (fx : Int64) (fs : Int64) (jr : Value) (sn : Value) (oj : Option Int64) (v2 : Int64) (v3 : Int64) (jj : Int64) (tt : Int64)
    (X0 : Stand p l e rr_4_4_4_53 s m args below meth c T0 [] 0 0) (hx : p.tables.exec = Jvm.exec) (hZ : Z.Warmed39 s.vm) (hw : ∀ d ∈ tables_1, d.before a0 Z = true) (hby : c.code = method_4_code) (hml : c.maxLocals = 29) (hown : s.vm.findClass "com/example/keyed_work_queue/keyedworkqueue/PendingFoundPinLaw" = some m.cls) (e0 : T0.heap = h0) (Z0 : n0 ≤ h0.size) (N0 : Fr n0 []) (hjj : ((1000 : Int64) + ((ids &&& (3 : Int32)).toInt64)) = jj) (htt : ((1000 : Int64) + (((ids >>> ((2 : Int32) &&& 31)) &&& (3 : Int32)).toInt64)) = tt) (g0_pq : n0 ≤ pq) (g0_arr : n0 ≤ arr) (PA : PdAt Z h0 pq fx fs jr sn) (O0 : Old Z n0 h0) (SC : Sta Z Z.heap "java/lang/Long$LongCache" "cache" "[Ljava/lang/Long;" (.ref cb)) (LC : LCache Z cb) (LJ : LR Z h0 jr oj) (VA : Arv Z h0 arr k .long (4 : Int32) [(.long fx), (.long fs), (.long v2), (.long v3)] (.long (0 : Int64))) (hc4 : (fl &&& (1 : Int32)) = (0 : Int32)) (hc18 : ¬ ((fl &&& (2 : Int32)) = (0 : Int32))) (hc32 : ¬ ((fl &&& (4 : Int32)) = (0 : Int32))) :
    ∃ (T' : State) (h' : Heap) (L' : List Loc) (jr' r1 r2 r3 r4 : Value), Stand p l e rr_4_4_4_53 s m args below meth c T' L' 2 2 ∧ T'.heap = h' ∧ Fr n0 L' ∧ (PdAt Z h' pq (own_fl oj (own_or none none) (fx, fs) (own_cand old (some (x, s')))).1 (own_fl oj (own_or none none) (fx, fs) (own_cand old (some (x, s')))).2 jr' (.int (1 : Int32)) ∧ LR Z h' jr' (own_jo oj none none) ∧ Arv Z h' arr k .long (4 : Int32) [(.long fx), (.long fs), (.long v2), (.long v3)] (.long (0 : Int64)) ∧ Old Z n0 h' ∧ Keep h0 h' [pq]) ∧
      ∀ target, Steps p.tables e below (T'.setTop (mkF m 143 #[.val (.ref pq), .val (.ref arr), .val (.long old), .second, .val (.long x), .second, .val (.long s'), .second, .val (.int ids), .val (.int fl), .val (.int (0 : Int32)), .val (.int (1 : Int32)), .val (.int (1 : Int32)), .val (.long jj), .second, .val (.long tt), .second, .val r1, .val r2, .val r3, .val r4, .unset, .unset, .unset, .unset, .unset, .unset, .unset, .unset] [])) target → Steps p.tables e below (T0.setTop (mkF m 0 #[.val (.ref pq), .val (.ref arr), .val (.long old), .second, .val (.long x), .second, .val (.long s'), .second, .val (.int ids), .val (.int fl), .unset, .unset, .unset, .unset, .unset, .unset, .unset, .unset, .unset, .unset, .unset, .unset, .unset, .unset, .unset, .unset, .unset, .unset, .unset] [])) target := by
  obtain ⟨Epd1, Fapd1, Fbpd1, Fcpd1, Fdpd1⟩ := PA
  have ne_pq_arr : pq ≠ arr := own_pe Epd1 VA (ow hw 1 rfl)
  obtain ⟨_, _, ⟨T2, L2, k2, n2⟩, -, X2, ⟨Lc2, hQ2, l2, y2, z2⟩, st2⟩ := Jvm.LawKit.callS X0 hx (y := nm_4) hown (mvT hZ (ow hw 23 rfl)) (mvT hZ (ow hw 24 rfl)) (mvT hZ (ow hw 25 rfl)) (mvT hZ (ow hw 26 rfl)) (by decide) (backOf (W := 0) (rm4 l Z a0 hw [] x cb h0 n0 Z0 O0 SC LC) hZ (ow hw 26 rfl) (ow hw 25 rfl) (by decide) (by decide)) (g := (mkF m 77 #[.val (.ref pq), .val (.ref arr), .val (.long old), .second, .val (.long x), .second, .val (.long s'), .second, .val (.int ids), .val (.int fl), .val (.int (0 : Int32)), .val (.int (1 : Int32)), .val (.int (1 : Int32)), .val (.long jj), .second, .val (.long tt), .second, .unset, .unset, .unset, .unset, .unset, .unset, .unset, .unset, .unset, .unset, .unset, .unset] [(.long x)])) rfl (by rw [hml]; rfl) (argsL := [(.long x)]) (rest := []) (lenOf pd_2 rfl) rfl (by show 2 * 0 + _ ≤ _; exact Nat.le_of_eq rfl) (hb hby d3_77) (fun _ _ => ⟨rfl, e0, (by decide : 0 + 1 ≤ _), (by decide : 0 + 1 ≤ _)⟩)
  dsimp only [Pt.U, Pt.locs, Pt.cells, Pt.slots] at X2 l2 y2 z2 st2 hQ2
  subst l2 y2 z2
  obtain ⟨av2, rfl, N2q, Ev2, EE2, FF2⟩ := hQ2
  have N2 := Fr.app N0 N2q
  have LJ2 := LJ.ext Ev2
  have c3 := O0.ext Ev2
  obtain ⟨_, _, ⟨T4, L4, k4, n4⟩, -, X4, ⟨Lc4, hQ4, l4, y4, z4⟩, st4⟩ := Jvm.LawKit.callS X2 hx (y := nm_4) hown (mvT hZ (ow hw 23 rfl)) (mvT hZ (ow hw 24 rfl)) (mvT hZ (ow hw 25 rfl)) (mvT hZ (ow hw 26 rfl)) (by decide) (backOf (W := 0) (rm4 l Z a0 hw [] s' cb T2.heap n0 (Nat.le_trans Z0 Ev2.1) c3 SC LC) hZ (ow hw 26 rfl) (ow hw 25 rfl) (by decide) (by decide)) (g := (mkF m 93 #[.val (.ref pq), .val (.ref arr), .val (.long old), .second, .val (.long x), .second, .val (.long s'), .second, .val (.int ids), .val (.int fl), .val (.int (0 : Int32)), .val (.int (1 : Int32)), .val (.int (1 : Int32)), .val (.long jj), .second, .val (.long tt), .second, .val (.ref av2), .unset, .unset, .unset, .unset, .unset, .unset, .unset, .unset, .unset, .unset, .unset] [(.long s')])) rfl (by rw [hml]; rfl) (argsL := [(.long s')]) (rest := []) (lenOf pd_2 rfl) rfl (by show 2 * 0 + _ ≤ _; exact Nat.le_of_eq rfl) (hb hby d3_93) (fun _ _ => ⟨rfl, rfl, (by decide : 1 + 1 ≤ _), (by decide : 1 + 1 ≤ _)⟩)
  dsimp only [Pt.U, Pt.locs, Pt.cells, Pt.slots] at X4 l4 y4 z4 st4 hQ4
  subst l4 y4 z4
  obtain ⟨av4, rfl, N4q, Ev4, EE4, FF4⟩ := hQ4
  have N4 := Fr.app N2 N4q
  have LJ4 := LJ2.ext Ev4
  have c5 := EE2.ext Ev4
  have c6 := FF2.ext Ev4
  have L3 : LR Z T4.heap .null none := (Or.inl ⟨rfl, rfl⟩)
  have L4 : LR Z T4.heap .null none := (Or.inl ⟨rfl, rfl⟩)
  have c7 := Epd1.ext Ev2
  have c8 := c7.ext Ev4
  have c9 := Fapd1.ext Ev2
  have c10 := c9.ext Ev4
  have c11 := Fbpd1.ext Ev2
  have c12 := c11.ext Ev4
  have c13 := Fcpd1.ext Ev2
  have c14 := c13.ext Ev4
  have c15 := Fdpd1.ext Ev2
  have c16 := c15.ext Ev4
  obtain ⟨cq17, kq17, q17a, q17b, q17c⟩ := isOf hZ rfl c8
  obtain ⟨_, _, ⟨T17, L17, k17, n17⟩, -, X17, ⟨Lc17, hQ17, l17, y17, z17⟩, st17⟩ := X4.virtualBack hx (y := nm_7) (z := nm_7) hown (mvT hZ (ow hw 46 rfl)) (mvT hZ (ow hw 47 rfl)) (notFace_of_selects (args := #[]) (mvT hZ (ow hw 49 rfl))) (mvT hZ (ow hw 49 rfl)) (mvT hZ (ow hw 48 rfl)) (by decide) (backOf (W := 0) (rm7 l Z a0 hw [] old pq fx fs jr sn (.ref av2) (.ref av4) .null .null (some (x, s')) none none oj T4.heap n0 (Nat.le_trans (Nat.le_trans Z0 Ev2.1) Ev4.1) g0_pq ⟨c8, c10, c12, c14, c16⟩ (Or.inr ⟨_, _, _, _, rfl, rfl, rfl, c5, c6, EE4, FF4⟩) L3 L4 LJ4) hZ (ow hw 50 rfl) (ow hw 2 rfl) (by decide) (by decide)) q17a q17c (g := (mkF m 140 #[.val (.ref pq), .val (.ref arr), .val (.long old), .second, .val (.long x), .second, .val (.long s'), .second, .val (.int ids), .val (.int fl), .val (.int (0 : Int32)), .val (.int (1 : Int32)), .val (.int (1 : Int32)), .val (.long jj), .second, .val (.long tt), .second, .val (.ref av2), .val (.ref av4), .val .null, .val .null, .unset, .unset, .unset, .unset, .unset, .unset, .unset, .unset] [.null, .null, (.ref av4), (.ref av2), (.long old), (.ref pq)])) rfl (by rw [hml]; rfl) (Steps.refl _) (argsL := [(.long old), (.ref av2), (.ref av4), .null, .null]) (rest := []) (lenOf pd_4 rfl) rfl (by show 2 * 0 + _ ≤ _; exact Nat.le_of_eq rfl) (hb hby d3_140) (fun _ _ => ⟨rfl, rfl, (by decide : 2 + 0 ≤ _), (by decide : 2 + 0 ≤ _)⟩)
  dsimp only [Pt.U, Pt.locs, Pt.cells, Pt.slots] at X17 l17 y17 z17 st17 hQ17
  subst l17 y17 z17
  obtain ⟨rfl, N17q, K17, PB17⟩ := hQ17
  have N17 := Fr.app N4 N17q
  have LN : LR Z T17.heap (own_jr oj none none .null .null) (own_jo oj none none) := (LR_new L3 L4).keepP K17 c8 (by decide)
  have kp18 : Keep h0 T17.heap [pq] := ((((Keep.refl h0 [pq]).ext Ev2).ext Ev4).trans K17 (allS (Or.inl (List.mem_of_getElem? (i := 0) rfl)) all0))
  have c19 := VA.ext Ev2
  have c20 := c19.ext Ev4
  have c21 := c20.keep K17 (ninS (Ne.symm ne_pq_arr) nin0)
  have c22 := c3.ext Ev4
  have c23 := c22.keep K17 (allS g0_pq all0)
  refine ⟨T17, _, _, _, (.ref av2), (.ref av4), .null, .null, X17, rfl, N17, ⟨PB17, LN, c21, c23, kp18⟩, fun target kt => ?_⟩
  show Steps p.tables e below (T0.setTop (mkF m 0 #[.val (.ref pq), .val (.ref arr), .val (.long old), .second, .val (.long x), .second, .val (.long s'), .second, .val (.int ids), .val (.int fl), .unset, .unset, .unset, .unset, .unset, .unset, .unset, .unset, .unset, .unset, .unset, .unset, .unset, .unset, .unset, .unset, .unset, .unset, .unset] [])) _
  refine XS.iload X0.here hx rfl (hb hby d3_0) rfl ?_
  refine XS.iconst X0.here hx rfl (hb hby d3_2) ?_
  refine XS.iand X0.here hx rfl (hb hby d3_3) rfl ?_
  refine XS.ifYes X0.here hx rfl (pc0 := 4) (pc' := 11) rfl (hb hby d3_4) rfl ((if0 _ _).trans (teq hc4).1) (by decide) (by decide) ?_
  refine XS.iconst X0.here hx rfl (hb hby d3_11) ?_
  refine XS.istore X0.here hx rfl (hb hby d3_12) rfl (l' := #[.val (.ref pq), .val (.ref arr), .val (.long old), .second, .val (.long x), .second, .val (.long s'), .second, .val (.int ids), .val (.int fl), .val (.int (0 : Int32)), .unset, .unset, .unset, .unset, .unset, .unset, .unset, .unset, .unset, .unset, .unset, .unset, .unset, .unset, .unset, .unset, .unset, .unset]) rfl ?_
  refine XS.iload X0.here hx rfl (hb hby d3_14) rfl ?_
  refine XS.iconst X0.here hx rfl (hb hby d3_16) ?_
  refine XS.iand X0.here hx rfl (hb hby d3_17) rfl ?_
  show Steps p.tables e below (T0.setTop (mkF m 18 #[.val (.ref pq), .val (.ref arr), .val (.long old), .second, .val (.long x), .second, .val (.long s'), .second, .val (.int ids), .val (.int fl), .val (.int (0 : Int32)), .unset, .unset, .unset, .unset, .unset, .unset, .unset, .unset, .unset, .unset, .unset, .unset, .unset, .unset, .unset, .unset, .unset, .unset] [(.int (fl &&& (2 : Int32)))])) _
  refine XS.ifNo X0.here hx rfl (hb hby d3_18) rfl ((if0 _ _).trans (feq hc18).1) ?_
  refine XS.iconst X0.here hx rfl (hb hby d3_21) ?_
  refine XS.goto X0.here hx rfl (pc0 := 22) (pc' := 26) rfl (hb hby d3_22) (by decide) (by decide) ?_
  refine XS.istore X0.here hx rfl (hb hby d3_26) rfl (l' := #[.val (.ref pq), .val (.ref arr), .val (.long old), .second, .val (.long x), .second, .val (.long s'), .second, .val (.int ids), .val (.int fl), .val (.int (0 : Int32)), .val (.int (1 : Int32)), .unset, .unset, .unset, .unset, .unset, .unset, .unset, .unset, .unset, .unset, .unset, .unset, .unset, .unset, .unset, .unset, .unset]) rfl ?_
  refine XS.iload X0.here hx rfl (hb hby d3_28) rfl ?_
  refine XS.iconst X0.here hx rfl (hb hby d3_30) ?_
  refine XS.iand X0.here hx rfl (hb hby d3_31) rfl ?_
  refine XS.ifNo X0.here hx rfl (hb hby d3_32) rfl ((if0 _ _).trans (feq hc32).1) ?_
  refine XS.iconst X0.here hx rfl (hb hby d3_35) ?_
  show Steps p.tables e below (T0.setTop (mkF m 36 #[.val (.ref pq), .val (.ref arr), .val (.long old), .second, .val (.long x), .second, .val (.long s'), .second, .val (.int ids), .val (.int fl), .val (.int (0 : Int32)), .val (.int (1 : Int32)), .unset, .unset, .unset, .unset, .unset, .unset, .unset, .unset, .unset, .unset, .unset, .unset, .unset, .unset, .unset, .unset, .unset] [(.int (1 : Int32))])) _
  refine XS.goto X0.here hx rfl (pc0 := 36) (pc' := 40) rfl (hb hby d3_36) (by decide) (by decide) ?_
  refine XS.istore X0.here hx rfl (hb hby d3_40) rfl (l' := #[.val (.ref pq), .val (.ref arr), .val (.long old), .second, .val (.long x), .second, .val (.long s'), .second, .val (.int ids), .val (.int fl), .val (.int (0 : Int32)), .val (.int (1 : Int32)), .val (.int (1 : Int32)), .unset, .unset, .unset, .unset, .unset, .unset, .unset, .unset, .unset, .unset, .unset, .unset, .unset, .unset, .unset, .unset]) rfl ?_
  refine X0.ldc2Long hx hown (mvT hZ (ow hw 22 rfl)) (g := (mkF m 42 #[.val (.ref pq), .val (.ref arr), .val (.long old), .second, .val (.long x), .second, .val (.long s'), .second, .val (.int ids), .val (.int fl), .val (.int (0 : Int32)), .val (.int (1 : Int32)), .val (.int (1 : Int32)), .unset, .unset, .unset, .unset, .unset, .unset, .unset, .unset, .unset, .unset, .unset, .unset, .unset, .unset, .unset, .unset] [])) rfl (hb hby d3_42) _ ?_
  refine XS.iload X0.here hx rfl (hb hby d3_45) rfl ?_
  refine XS.iconst X0.here hx rfl (hb hby d3_47) ?_
  refine XS.iand X0.here hx rfl (hb hby d3_48) rfl ?_
  refine XS.i2l X0.here hx rfl (hb hby d3_49) rfl ?_
  refine XS.ladd X0.here hx rfl (hb hby d3_50) rfl ?_
  show Steps p.tables e below (T0.setTop (mkF m 51 #[.val (.ref pq), .val (.ref arr), .val (.long old), .second, .val (.long x), .second, .val (.long s'), .second, .val (.int ids), .val (.int fl), .val (.int (0 : Int32)), .val (.int (1 : Int32)), .val (.int (1 : Int32)), .unset, .unset, .unset, .unset, .unset, .unset, .unset, .unset, .unset, .unset, .unset, .unset, .unset, .unset, .unset, .unset] [(.long ((1000 : Int64) + ((ids &&& (3 : Int32)).toInt64)))])) _
  rw [hjj]
  refine XS.lstore X0.here hx rfl (hb hby d3_51) rfl (l' := #[.val (.ref pq), .val (.ref arr), .val (.long old), .second, .val (.long x), .second, .val (.long s'), .second, .val (.int ids), .val (.int fl), .val (.int (0 : Int32)), .val (.int (1 : Int32)), .val (.int (1 : Int32)), .val (.long jj), .second, .unset, .unset, .unset, .unset, .unset, .unset, .unset, .unset, .unset, .unset, .unset, .unset, .unset, .unset]) rfl ?_
  show Steps p.tables e below (T0.setTop (mkF m 53 #[.val (.ref pq), .val (.ref arr), .val (.long old), .second, .val (.long x), .second, .val (.long s'), .second, .val (.int ids), .val (.int fl), .val (.int (0 : Int32)), .val (.int (1 : Int32)), .val (.int (1 : Int32)), .val (.long jj), .second, .unset, .unset, .unset, .unset, .unset, .unset, .unset, .unset, .unset, .unset, .unset, .unset, .unset, .unset] [])) _
  refine X0.ldc2Long hx hown (mvT hZ (ow hw 22 rfl)) (g := (mkF m 53 #[.val (.ref pq), .val (.ref arr), .val (.long old), .second, .val (.long x), .second, .val (.long s'), .second, .val (.int ids), .val (.int fl), .val (.int (0 : Int32)), .val (.int (1 : Int32)), .val (.int (1 : Int32)), .val (.long jj), .second, .unset, .unset, .unset, .unset, .unset, .unset, .unset, .unset, .unset, .unset, .unset, .unset, .unset, .unset] [])) rfl (hb hby d3_53) _ ?_
  refine XS.iload X0.here hx rfl (hb hby d3_56) rfl ?_
  refine XS.iconst X0.here hx rfl (hb hby d3_58) ?_
  refine XS.ishr X0.here hx rfl (hb hby d3_59) rfl ?_
  refine XS.iconst X0.here hx rfl (hb hby d3_60) ?_
  refine XS.iand X0.here hx rfl (hb hby d3_61) rfl ?_
  refine XS.i2l X0.here hx rfl (hb hby d3_62) rfl ?_
  refine XS.ladd X0.here hx rfl (hb hby d3_63) rfl ?_
  show Steps p.tables e below (T0.setTop (mkF m 64 #[.val (.ref pq), .val (.ref arr), .val (.long old), .second, .val (.long x), .second, .val (.long s'), .second, .val (.int ids), .val (.int fl), .val (.int (0 : Int32)), .val (.int (1 : Int32)), .val (.int (1 : Int32)), .val (.long jj), .second, .unset, .unset, .unset, .unset, .unset, .unset, .unset, .unset, .unset, .unset, .unset, .unset, .unset, .unset] [(.long ((1000 : Int64) + (((ids >>> ((2 : Int32) &&& 31)) &&& (3 : Int32)).toInt64)))])) _
  rw [htt]
  refine XS.lstore X0.here hx rfl (hb hby d3_64) rfl (l' := #[.val (.ref pq), .val (.ref arr), .val (.long old), .second, .val (.long x), .second, .val (.long s'), .second, .val (.int ids), .val (.int fl), .val (.int (0 : Int32)), .val (.int (1 : Int32)), .val (.int (1 : Int32)), .val (.long jj), .second, .val (.long tt), .second, .unset, .unset, .unset, .unset, .unset, .unset, .unset, .unset, .unset, .unset, .unset, .unset]) rfl ?_
  show Steps p.tables e below (T0.setTop (mkF m 66 #[.val (.ref pq), .val (.ref arr), .val (.long old), .second, .val (.long x), .second, .val (.long s'), .second, .val (.int ids), .val (.int fl), .val (.int (0 : Int32)), .val (.int (1 : Int32)), .val (.int (1 : Int32)), .val (.long jj), .second, .val (.long tt), .second, .unset, .unset, .unset, .unset, .unset, .unset, .unset, .unset, .unset, .unset, .unset, .unset] [])) _
  refine XS.iload X0.here hx rfl (hb hby d3_66) rfl ?_
  refine XS.ifYes X0.here hx rfl (pc0 := 68) (pc' := 75) rfl (hb hby d3_68) rfl ((if0 _ _).trans (teq (rfl : (0 : Int32) = (0 : Int32))).1) (by decide) (by decide) ?_
  refine XS.lload X0.here hx rfl (hb hby d3_75) rfl ?_
  refine st2 _ ?_
  refine XS.astore X2.here hx rfl (hb hby d3_80) rfl rfl (l' := #[.val (.ref pq), .val (.ref arr), .val (.long old), .second, .val (.long x), .second, .val (.long s'), .second, .val (.int ids), .val (.int fl), .val (.int (0 : Int32)), .val (.int (1 : Int32)), .val (.int (1 : Int32)), .val (.long jj), .second, .val (.long tt), .second, .val (.ref av2), .unset, .unset, .unset, .unset, .unset, .unset, .unset, .unset, .unset, .unset, .unset]) rfl ?_
  refine XS.iload X2.here hx rfl (hb hby d3_82) rfl ?_
  refine XS.ifYes X2.here hx rfl (pc0 := 84) (pc' := 91) rfl (hb hby d3_84) rfl ((if0 _ _).trans (teq (rfl : (0 : Int32) = (0 : Int32))).1) (by decide) (by decide) ?_
  refine XS.lload X2.here hx rfl (hb hby d3_91) rfl ?_
  refine st4 _ ?_
  show Steps p.tables e below (T4.setTop (mkF m 96 #[.val (.ref pq), .val (.ref arr), .val (.long old), .second, .val (.long x), .second, .val (.long s'), .second, .val (.int ids), .val (.int fl), .val (.int (0 : Int32)), .val (.int (1 : Int32)), .val (.int (1 : Int32)), .val (.long jj), .second, .val (.long tt), .second, .val (.ref av2), .unset, .unset, .unset, .unset, .unset, .unset, .unset, .unset, .unset, .unset, .unset] [(.ref av4)])) _
  refine XS.astore X4.here hx rfl (hb hby d3_96) rfl rfl (l' := #[.val (.ref pq), .val (.ref arr), .val (.long old), .second, .val (.long x), .second, .val (.long s'), .second, .val (.int ids), .val (.int fl), .val (.int (0 : Int32)), .val (.int (1 : Int32)), .val (.int (1 : Int32)), .val (.long jj), .second, .val (.long tt), .second, .val (.ref av2), .val (.ref av4), .unset, .unset, .unset, .unset, .unset, .unset, .unset, .unset, .unset, .unset]) rfl ?_
  refine XS.iload X4.here hx rfl (hb hby d3_98) rfl ?_
  refine XS.ifNo X4.here hx rfl (hb hby d3_100) rfl ((if0 _ _).trans (feq ((by decide) : ¬ ((1 : Int32) = (0 : Int32)))).1) ?_
  refine XS.aconstNull X4.here hx rfl (hb hby d3_103) ?_
  refine XS.goto X4.here hx rfl (pc0 := 104) (pc' := 112) rfl (hb hby d3_104) (by decide) (by decide) ?_
  refine XS.astore X4.here hx rfl (hb hby d3_112) rfl rfl (l' := #[.val (.ref pq), .val (.ref arr), .val (.long old), .second, .val (.long x), .second, .val (.long s'), .second, .val (.int ids), .val (.int fl), .val (.int (0 : Int32)), .val (.int (1 : Int32)), .val (.int (1 : Int32)), .val (.long jj), .second, .val (.long tt), .second, .val (.ref av2), .val (.ref av4), .val .null, .unset, .unset, .unset, .unset, .unset, .unset, .unset, .unset, .unset]) rfl ?_
  refine XS.iload X4.here hx rfl (hb hby d3_114) rfl ?_
  refine XS.ifNo X4.here hx rfl (hb hby d3_116) rfl ((if0 _ _).trans (feq ((by decide) : ¬ ((1 : Int32) = (0 : Int32)))).1) ?_
  refine XS.aconstNull X4.here hx rfl (hb hby d3_119) ?_
  show Steps p.tables e below (T4.setTop (mkF m 120 #[.val (.ref pq), .val (.ref arr), .val (.long old), .second, .val (.long x), .second, .val (.long s'), .second, .val (.int ids), .val (.int fl), .val (.int (0 : Int32)), .val (.int (1 : Int32)), .val (.int (1 : Int32)), .val (.long jj), .second, .val (.long tt), .second, .val (.ref av2), .val (.ref av4), .val .null, .unset, .unset, .unset, .unset, .unset, .unset, .unset, .unset, .unset] [.null])) _
  refine XS.goto X4.here hx rfl (pc0 := 120) (pc' := 128) rfl (hb hby d3_120) (by decide) (by decide) ?_
  refine XS.astore X4.here hx rfl (hb hby d3_128) rfl rfl (l' := #[.val (.ref pq), .val (.ref arr), .val (.long old), .second, .val (.long x), .second, .val (.long s'), .second, .val (.int ids), .val (.int fl), .val (.int (0 : Int32)), .val (.int (1 : Int32)), .val (.int (1 : Int32)), .val (.long jj), .second, .val (.long tt), .second, .val (.ref av2), .val (.ref av4), .val .null, .val .null, .unset, .unset, .unset, .unset, .unset, .unset, .unset, .unset]) rfl ?_
  refine XS.aloadN X4.here hx rfl (hb hby d3_130) rfl rfl ?_
  refine XS.lloadN X4.here hx rfl (hb hby d3_131) rfl ?_
  refine XS.aload X4.here hx rfl (hb hby d3_132) rfl rfl ?_
  refine XS.aload X4.here hx rfl (hb hby d3_134) rfl rfl ?_
  refine XS.aload X4.here hx rfl (hb hby d3_136) rfl rfl ?_
  refine XS.aload X4.here hx rfl (hb hby d3_138) rfl rfl ?_
  refine st17.trans ?_
  exact kt
theorem d3_7 : decode method_4_code 7 = .ok (.iconst 1, 1) := by decide +kernel
theorem d3_8 : decode method_4_code 8 = .ok (.goto 4, 3) := by decide +kernel
theorem d3_71 : decode method_4_code 71 = .ok (.aconst_null, 1) := by decide +kernel
theorem d3_72 : decode method_4_code 72 = .ok (.goto 8, 3) := by decide +kernel
theorem d3_87 : decode method_4_code 87 = .ok (.aconst_null, 1) := by decide +kernel
theorem d3_88 : decode method_4_code 88 = .ok (.goto 8, 3) := by decide +kernel
set_option maxRecDepth 65536 in
set_option maxHeartbeats 40000000 in
theorem s1_100 {p : Program} {l : Launch} {e : Env} {s : State} {m : MethodId} {args : Array Value} {below : List Frame} {meth : Method} {c : Code} {T0 : State} {Z : State} {a0 : Array Value} {h0 : Heap} {n0 : Nat} (pq : Addr) (arr : Addr) (k : ClassId) (cb : Addr) (old : Int64) (x : Int64) (s' : Int64) (ids : Int32) (fl : Int32) (fx : Int64) (fs : Int64) (jr : Value) (sn : Value) (oj : Option Int64) (v2 : Int64) (v3 : Int64) (jj : Int64) (tt : Int64)
    (X0 : Stand p l e rr_4_4_4_53 s m args below meth c T0 [] 0 0) (hx : p.tables.exec = Jvm.exec) (hZ : Z.Warmed39 s.vm) (hw : ∀ d ∈ tables_1, d.before a0 Z = true) (hby : c.code = method_4_code) (hml : c.maxLocals = 29) (hown : s.vm.findClass "com/example/keyed_work_queue/keyedworkqueue/PendingFoundPinLaw" = some m.cls) (e0 : T0.heap = h0) (Z0 : n0 ≤ h0.size) (N0 : Fr n0 []) (hjj : ((1000 : Int64) + ((ids &&& (3 : Int32)).toInt64)) = jj) (htt : ((1000 : Int64) + (((ids >>> ((2 : Int32) &&& 31)) &&& (3 : Int32)).toInt64)) = tt) (g0_pq : n0 ≤ pq) (g0_arr : n0 ≤ arr) (PA : PdAt Z h0 pq fx fs jr sn) (O0 : Old Z n0 h0) (SC : Sta Z Z.heap "java/lang/Long$LongCache" "cache" "[Ljava/lang/Long;" (.ref cb)) (LC : LCache Z cb) (LJ : LR Z h0 jr oj) (VA : Arv Z h0 arr k .long (4 : Int32) [(.long fx), (.long fs), (.long v2), (.long v3)] (.long (0 : Int64))) (hc4 : ¬ ((fl &&& (1 : Int32)) = (0 : Int32))) (hc18 : (fl &&& (2 : Int32)) = (0 : Int32)) (hc32 : (fl &&& (4 : Int32)) = (0 : Int32)) :
    ∃ (T' : State) (h' : Heap) (L' : List Loc) (jr' r1 r2 r3 r4 : Value), Stand p l e rr_4_4_4_53 s m args below meth c T' L' 2 2 ∧ T'.heap = h' ∧ Fr n0 L' ∧ (PdAt Z h' pq (own_fl oj (own_or (some jj) (some tt)) (fx, fs) (own_cand old none)).1 (own_fl oj (own_or (some jj) (some tt)) (fx, fs) (own_cand old none)).2 jr' (.int (0 : Int32)) ∧ LR Z h' jr' (own_jo oj (some jj) (some tt)) ∧ Arv Z h' arr k .long (4 : Int32) [(.long fx), (.long fs), (.long v2), (.long v3)] (.long (0 : Int64)) ∧ Old Z n0 h' ∧ Keep h0 h' [pq]) ∧
      ∀ target, Steps p.tables e below (T'.setTop (mkF m 143 #[.val (.ref pq), .val (.ref arr), .val (.long old), .second, .val (.long x), .second, .val (.long s'), .second, .val (.int ids), .val (.int fl), .val (.int (1 : Int32)), .val (.int (0 : Int32)), .val (.int (0 : Int32)), .val (.long jj), .second, .val (.long tt), .second, .val r1, .val r2, .val r3, .val r4, .unset, .unset, .unset, .unset, .unset, .unset, .unset, .unset] [])) target → Steps p.tables e below (T0.setTop (mkF m 0 #[.val (.ref pq), .val (.ref arr), .val (.long old), .second, .val (.long x), .second, .val (.long s'), .second, .val (.int ids), .val (.int fl), .unset, .unset, .unset, .unset, .unset, .unset, .unset, .unset, .unset, .unset, .unset, .unset, .unset, .unset, .unset, .unset, .unset, .unset, .unset] [])) target := by
  obtain ⟨Epd1, Fapd1, Fbpd1, Fcpd1, Fdpd1⟩ := PA
  have ne_pq_arr : pq ≠ arr := own_pe Epd1 VA (ow hw 1 rfl)
  obtain ⟨_, _, ⟨T2, L2, k2, n2⟩, -, X2, ⟨Lc2, hQ2, l2, y2, z2⟩, st2⟩ := Jvm.LawKit.callS X0 hx (y := nm_4) hown (mvT hZ (ow hw 23 rfl)) (mvT hZ (ow hw 24 rfl)) (mvT hZ (ow hw 25 rfl)) (mvT hZ (ow hw 26 rfl)) (by decide) (backOf (W := 0) (rm4 l Z a0 hw [] jj cb h0 n0 Z0 O0 SC LC) hZ (ow hw 26 rfl) (ow hw 25 rfl) (by decide) (by decide)) (g := (mkF m 109 #[.val (.ref pq), .val (.ref arr), .val (.long old), .second, .val (.long x), .second, .val (.long s'), .second, .val (.int ids), .val (.int fl), .val (.int (1 : Int32)), .val (.int (0 : Int32)), .val (.int (0 : Int32)), .val (.long jj), .second, .val (.long tt), .second, .val .null, .val .null, .unset, .unset, .unset, .unset, .unset, .unset, .unset, .unset, .unset, .unset] [(.long jj)])) rfl (by rw [hml]; rfl) (argsL := [(.long jj)]) (rest := []) (lenOf pd_2 rfl) rfl (by show 2 * 0 + _ ≤ _; exact Nat.le_of_eq rfl) (hb hby d3_109) (fun _ _ => ⟨rfl, e0, (by decide : 0 + 1 ≤ _), (by decide : 0 + 1 ≤ _)⟩)
  dsimp only [Pt.U, Pt.locs, Pt.cells, Pt.slots] at X2 l2 y2 z2 st2 hQ2
  subst l2 y2 z2
  obtain ⟨av2, rfl, N2q, Ev2, EE2, FF2⟩ := hQ2
  have N2 := Fr.app N0 N2q
  have LJ2 := LJ.ext Ev2
  have c3 := O0.ext Ev2
  obtain ⟨_, _, ⟨T4, L4, k4, n4⟩, -, X4, ⟨Lc4, hQ4, l4, y4, z4⟩, st4⟩ := Jvm.LawKit.callS X2 hx (y := nm_4) hown (mvT hZ (ow hw 23 rfl)) (mvT hZ (ow hw 24 rfl)) (mvT hZ (ow hw 25 rfl)) (mvT hZ (ow hw 26 rfl)) (by decide) (backOf (W := 0) (rm4 l Z a0 hw [] tt cb T2.heap n0 (Nat.le_trans Z0 Ev2.1) c3 SC LC) hZ (ow hw 26 rfl) (ow hw 25 rfl) (by decide) (by decide)) (g := (mkF m 125 #[.val (.ref pq), .val (.ref arr), .val (.long old), .second, .val (.long x), .second, .val (.long s'), .second, .val (.int ids), .val (.int fl), .val (.int (1 : Int32)), .val (.int (0 : Int32)), .val (.int (0 : Int32)), .val (.long jj), .second, .val (.long tt), .second, .val .null, .val .null, .val (.ref av2), .unset, .unset, .unset, .unset, .unset, .unset, .unset, .unset, .unset] [(.long tt)])) rfl (by rw [hml]; rfl) (argsL := [(.long tt)]) (rest := []) (lenOf pd_2 rfl) rfl (by show 2 * 0 + _ ≤ _; exact Nat.le_of_eq rfl) (hb hby d3_125) (fun _ _ => ⟨rfl, rfl, (by decide : 1 + 1 ≤ _), (by decide : 1 + 1 ≤ _)⟩)
  dsimp only [Pt.U, Pt.locs, Pt.cells, Pt.slots] at X4 l4 y4 z4 st4 hQ4
  subst l4 y4 z4
  obtain ⟨av4, rfl, N4q, Ev4, EE4, FF4⟩ := hQ4
  have N4 := Fr.app N2 N4q
  have LJ4 := LJ2.ext Ev4
  have c5 := EE2.ext Ev4
  have c6 := FF2.ext Ev4
  have L3 : LR Z T4.heap (.ref av2) (some jj) := (Or.inr ⟨av2, _, rfl, rfl, c5, c6⟩)
  have L4 : LR Z T4.heap (.ref av4) (some tt) := (Or.inr ⟨av4, _, rfl, rfl, EE4, FF4⟩)
  have c7 := Epd1.ext Ev2
  have c8 := c7.ext Ev4
  have c9 := Fapd1.ext Ev2
  have c10 := c9.ext Ev4
  have c11 := Fbpd1.ext Ev2
  have c12 := c11.ext Ev4
  have c13 := Fcpd1.ext Ev2
  have c14 := c13.ext Ev4
  have c15 := Fdpd1.ext Ev2
  have c16 := c15.ext Ev4
  obtain ⟨cq17, kq17, q17a, q17b, q17c⟩ := isOf hZ rfl c8
  obtain ⟨_, _, ⟨T17, L17, k17, n17⟩, -, X17, ⟨Lc17, hQ17, l17, y17, z17⟩, st17⟩ := X4.virtualBack hx (y := nm_7) (z := nm_7) hown (mvT hZ (ow hw 46 rfl)) (mvT hZ (ow hw 47 rfl)) (notFace_of_selects (args := #[]) (mvT hZ (ow hw 49 rfl))) (mvT hZ (ow hw 49 rfl)) (mvT hZ (ow hw 48 rfl)) (by decide) (backOf (W := 0) (rm7 l Z a0 hw [] old pq fx fs jr sn .null .null (.ref av2) (.ref av4) none (some jj) (some tt) oj T4.heap n0 (Nat.le_trans (Nat.le_trans Z0 Ev2.1) Ev4.1) g0_pq ⟨c8, c10, c12, c14, c16⟩ (Or.inl ⟨rfl, rfl, rfl⟩) L3 L4 LJ4) hZ (ow hw 50 rfl) (ow hw 2 rfl) (by decide) (by decide)) q17a q17c (g := (mkF m 140 #[.val (.ref pq), .val (.ref arr), .val (.long old), .second, .val (.long x), .second, .val (.long s'), .second, .val (.int ids), .val (.int fl), .val (.int (1 : Int32)), .val (.int (0 : Int32)), .val (.int (0 : Int32)), .val (.long jj), .second, .val (.long tt), .second, .val .null, .val .null, .val (.ref av2), .val (.ref av4), .unset, .unset, .unset, .unset, .unset, .unset, .unset, .unset] [(.ref av4), (.ref av2), .null, .null, (.long old), (.ref pq)])) rfl (by rw [hml]; rfl) (Steps.refl _) (argsL := [(.long old), .null, .null, (.ref av2), (.ref av4)]) (rest := []) (lenOf pd_4 rfl) rfl (by show 2 * 0 + _ ≤ _; exact Nat.le_of_eq rfl) (hb hby d3_140) (fun _ _ => ⟨rfl, rfl, (by decide : 2 + 0 ≤ _), (by decide : 2 + 0 ≤ _)⟩)
  dsimp only [Pt.U, Pt.locs, Pt.cells, Pt.slots] at X17 l17 y17 z17 st17 hQ17
  subst l17 y17 z17
  obtain ⟨rfl, N17q, K17, PB17⟩ := hQ17
  have N17 := Fr.app N4 N17q
  have LN : LR Z T17.heap (own_jr oj (some jj) (some tt) (.ref av2) (.ref av4)) (own_jo oj (some jj) (some tt)) := (LR_new L3 L4).keepP K17 c8 (by decide)
  have kp18 : Keep h0 T17.heap [pq] := ((((Keep.refl h0 [pq]).ext Ev2).ext Ev4).trans K17 (allS (Or.inl (List.mem_of_getElem? (i := 0) rfl)) all0))
  have c19 := VA.ext Ev2
  have c20 := c19.ext Ev4
  have c21 := c20.keep K17 (ninS (Ne.symm ne_pq_arr) nin0)
  have c22 := c3.ext Ev4
  have c23 := c22.keep K17 (allS g0_pq all0)
  refine ⟨T17, _, _, _, .null, .null, (.ref av2), (.ref av4), X17, rfl, N17, ⟨PB17, LN, c21, c23, kp18⟩, fun target kt => ?_⟩
  show Steps p.tables e below (T0.setTop (mkF m 0 #[.val (.ref pq), .val (.ref arr), .val (.long old), .second, .val (.long x), .second, .val (.long s'), .second, .val (.int ids), .val (.int fl), .unset, .unset, .unset, .unset, .unset, .unset, .unset, .unset, .unset, .unset, .unset, .unset, .unset, .unset, .unset, .unset, .unset, .unset, .unset] [])) _
  refine XS.iload X0.here hx rfl (hb hby d3_0) rfl ?_
  refine XS.iconst X0.here hx rfl (hb hby d3_2) ?_
  refine XS.iand X0.here hx rfl (hb hby d3_3) rfl ?_
  refine XS.ifNo X0.here hx rfl (hb hby d3_4) rfl ((if0 _ _).trans (feq hc4).1) ?_
  refine XS.iconst X0.here hx rfl (hb hby d3_7) ?_
  refine XS.goto X0.here hx rfl (pc0 := 8) (pc' := 12) rfl (hb hby d3_8) (by decide) (by decide) ?_
  refine XS.istore X0.here hx rfl (hb hby d3_12) rfl (l' := #[.val (.ref pq), .val (.ref arr), .val (.long old), .second, .val (.long x), .second, .val (.long s'), .second, .val (.int ids), .val (.int fl), .val (.int (1 : Int32)), .unset, .unset, .unset, .unset, .unset, .unset, .unset, .unset, .unset, .unset, .unset, .unset, .unset, .unset, .unset, .unset, .unset, .unset]) rfl ?_
  refine XS.iload X0.here hx rfl (hb hby d3_14) rfl ?_
  refine XS.iconst X0.here hx rfl (hb hby d3_16) ?_
  show Steps p.tables e below (T0.setTop (mkF m 17 #[.val (.ref pq), .val (.ref arr), .val (.long old), .second, .val (.long x), .second, .val (.long s'), .second, .val (.int ids), .val (.int fl), .val (.int (1 : Int32)), .unset, .unset, .unset, .unset, .unset, .unset, .unset, .unset, .unset, .unset, .unset, .unset, .unset, .unset, .unset, .unset, .unset, .unset] [(.int (2 : Int32)), (.int fl)])) _
  refine XS.iand X0.here hx rfl (hb hby d3_17) rfl ?_
  refine XS.ifYes X0.here hx rfl (pc0 := 18) (pc' := 25) rfl (hb hby d3_18) rfl ((if0 _ _).trans (teq hc18).1) (by decide) (by decide) ?_
  refine XS.iconst X0.here hx rfl (hb hby d3_25) ?_
  refine XS.istore X0.here hx rfl (hb hby d3_26) rfl (l' := #[.val (.ref pq), .val (.ref arr), .val (.long old), .second, .val (.long x), .second, .val (.long s'), .second, .val (.int ids), .val (.int fl), .val (.int (1 : Int32)), .val (.int (0 : Int32)), .unset, .unset, .unset, .unset, .unset, .unset, .unset, .unset, .unset, .unset, .unset, .unset, .unset, .unset, .unset, .unset, .unset]) rfl ?_
  refine XS.iload X0.here hx rfl (hb hby d3_28) rfl ?_
  refine XS.iconst X0.here hx rfl (hb hby d3_30) ?_
  refine XS.iand X0.here hx rfl (hb hby d3_31) rfl ?_
  refine XS.ifYes X0.here hx rfl (pc0 := 32) (pc' := 39) rfl (hb hby d3_32) rfl ((if0 _ _).trans (teq hc32).1) (by decide) (by decide) ?_
  refine XS.iconst X0.here hx rfl (hb hby d3_39) ?_
  show Steps p.tables e below (T0.setTop (mkF m 40 #[.val (.ref pq), .val (.ref arr), .val (.long old), .second, .val (.long x), .second, .val (.long s'), .second, .val (.int ids), .val (.int fl), .val (.int (1 : Int32)), .val (.int (0 : Int32)), .unset, .unset, .unset, .unset, .unset, .unset, .unset, .unset, .unset, .unset, .unset, .unset, .unset, .unset, .unset, .unset, .unset] [(.int (0 : Int32))])) _
  refine XS.istore X0.here hx rfl (hb hby d3_40) rfl (l' := #[.val (.ref pq), .val (.ref arr), .val (.long old), .second, .val (.long x), .second, .val (.long s'), .second, .val (.int ids), .val (.int fl), .val (.int (1 : Int32)), .val (.int (0 : Int32)), .val (.int (0 : Int32)), .unset, .unset, .unset, .unset, .unset, .unset, .unset, .unset, .unset, .unset, .unset, .unset, .unset, .unset, .unset, .unset]) rfl ?_
  refine X0.ldc2Long hx hown (mvT hZ (ow hw 22 rfl)) (g := (mkF m 42 #[.val (.ref pq), .val (.ref arr), .val (.long old), .second, .val (.long x), .second, .val (.long s'), .second, .val (.int ids), .val (.int fl), .val (.int (1 : Int32)), .val (.int (0 : Int32)), .val (.int (0 : Int32)), .unset, .unset, .unset, .unset, .unset, .unset, .unset, .unset, .unset, .unset, .unset, .unset, .unset, .unset, .unset, .unset] [])) rfl (hb hby d3_42) _ ?_
  refine XS.iload X0.here hx rfl (hb hby d3_45) rfl ?_
  refine XS.iconst X0.here hx rfl (hb hby d3_47) ?_
  refine XS.iand X0.here hx rfl (hb hby d3_48) rfl ?_
  refine XS.i2l X0.here hx rfl (hb hby d3_49) rfl ?_
  refine XS.ladd X0.here hx rfl (hb hby d3_50) rfl ?_
  show Steps p.tables e below (T0.setTop (mkF m 51 #[.val (.ref pq), .val (.ref arr), .val (.long old), .second, .val (.long x), .second, .val (.long s'), .second, .val (.int ids), .val (.int fl), .val (.int (1 : Int32)), .val (.int (0 : Int32)), .val (.int (0 : Int32)), .unset, .unset, .unset, .unset, .unset, .unset, .unset, .unset, .unset, .unset, .unset, .unset, .unset, .unset, .unset, .unset] [(.long ((1000 : Int64) + ((ids &&& (3 : Int32)).toInt64)))])) _
  rw [hjj]
  refine XS.lstore X0.here hx rfl (hb hby d3_51) rfl (l' := #[.val (.ref pq), .val (.ref arr), .val (.long old), .second, .val (.long x), .second, .val (.long s'), .second, .val (.int ids), .val (.int fl), .val (.int (1 : Int32)), .val (.int (0 : Int32)), .val (.int (0 : Int32)), .val (.long jj), .second, .unset, .unset, .unset, .unset, .unset, .unset, .unset, .unset, .unset, .unset, .unset, .unset, .unset, .unset]) rfl ?_
  refine X0.ldc2Long hx hown (mvT hZ (ow hw 22 rfl)) (g := (mkF m 53 #[.val (.ref pq), .val (.ref arr), .val (.long old), .second, .val (.long x), .second, .val (.long s'), .second, .val (.int ids), .val (.int fl), .val (.int (1 : Int32)), .val (.int (0 : Int32)), .val (.int (0 : Int32)), .val (.long jj), .second, .unset, .unset, .unset, .unset, .unset, .unset, .unset, .unset, .unset, .unset, .unset, .unset, .unset, .unset] [])) rfl (hb hby d3_53) _ ?_
  show Steps p.tables e below (T0.setTop (mkF m 56 #[.val (.ref pq), .val (.ref arr), .val (.long old), .second, .val (.long x), .second, .val (.long s'), .second, .val (.int ids), .val (.int fl), .val (.int (1 : Int32)), .val (.int (0 : Int32)), .val (.int (0 : Int32)), .val (.long jj), .second, .unset, .unset, .unset, .unset, .unset, .unset, .unset, .unset, .unset, .unset, .unset, .unset, .unset, .unset] [(.long (1000 : Int64))])) _
  refine XS.iload X0.here hx rfl (hb hby d3_56) rfl ?_
  refine XS.iconst X0.here hx rfl (hb hby d3_58) ?_
  refine XS.ishr X0.here hx rfl (hb hby d3_59) rfl ?_
  refine XS.iconst X0.here hx rfl (hb hby d3_60) ?_
  refine XS.iand X0.here hx rfl (hb hby d3_61) rfl ?_
  refine XS.i2l X0.here hx rfl (hb hby d3_62) rfl ?_
  refine XS.ladd X0.here hx rfl (hb hby d3_63) rfl ?_
  show Steps p.tables e below (T0.setTop (mkF m 64 #[.val (.ref pq), .val (.ref arr), .val (.long old), .second, .val (.long x), .second, .val (.long s'), .second, .val (.int ids), .val (.int fl), .val (.int (1 : Int32)), .val (.int (0 : Int32)), .val (.int (0 : Int32)), .val (.long jj), .second, .unset, .unset, .unset, .unset, .unset, .unset, .unset, .unset, .unset, .unset, .unset, .unset, .unset, .unset] [(.long ((1000 : Int64) + (((ids >>> ((2 : Int32) &&& 31)) &&& (3 : Int32)).toInt64)))])) _
  rw [htt]
  refine XS.lstore X0.here hx rfl (hb hby d3_64) rfl (l' := #[.val (.ref pq), .val (.ref arr), .val (.long old), .second, .val (.long x), .second, .val (.long s'), .second, .val (.int ids), .val (.int fl), .val (.int (1 : Int32)), .val (.int (0 : Int32)), .val (.int (0 : Int32)), .val (.long jj), .second, .val (.long tt), .second, .unset, .unset, .unset, .unset, .unset, .unset, .unset, .unset, .unset, .unset, .unset, .unset]) rfl ?_
  refine XS.iload X0.here hx rfl (hb hby d3_66) rfl ?_
  show Steps p.tables e below (T0.setTop (mkF m 68 #[.val (.ref pq), .val (.ref arr), .val (.long old), .second, .val (.long x), .second, .val (.long s'), .second, .val (.int ids), .val (.int fl), .val (.int (1 : Int32)), .val (.int (0 : Int32)), .val (.int (0 : Int32)), .val (.long jj), .second, .val (.long tt), .second, .unset, .unset, .unset, .unset, .unset, .unset, .unset, .unset, .unset, .unset, .unset, .unset] [(.int (1 : Int32))])) _
  refine XS.ifNo X0.here hx rfl (hb hby d3_68) rfl ((if0 _ _).trans (feq ((by decide) : ¬ ((1 : Int32) = (0 : Int32)))).1) ?_
  refine XS.aconstNull X0.here hx rfl (hb hby d3_71) ?_
  refine XS.goto X0.here hx rfl (pc0 := 72) (pc' := 80) rfl (hb hby d3_72) (by decide) (by decide) ?_
  refine XS.astore X0.here hx rfl (hb hby d3_80) rfl rfl (l' := #[.val (.ref pq), .val (.ref arr), .val (.long old), .second, .val (.long x), .second, .val (.long s'), .second, .val (.int ids), .val (.int fl), .val (.int (1 : Int32)), .val (.int (0 : Int32)), .val (.int (0 : Int32)), .val (.long jj), .second, .val (.long tt), .second, .val .null, .unset, .unset, .unset, .unset, .unset, .unset, .unset, .unset, .unset, .unset, .unset]) rfl ?_
  refine XS.iload X0.here hx rfl (hb hby d3_82) rfl ?_
  refine XS.ifNo X0.here hx rfl (hb hby d3_84) rfl ((if0 _ _).trans (feq ((by decide) : ¬ ((1 : Int32) = (0 : Int32)))).1) ?_
  refine XS.aconstNull X0.here hx rfl (hb hby d3_87) ?_
  refine XS.goto X0.here hx rfl (pc0 := 88) (pc' := 96) rfl (hb hby d3_88) (by decide) (by decide) ?_
  refine XS.astore X0.here hx rfl (hb hby d3_96) rfl rfl (l' := #[.val (.ref pq), .val (.ref arr), .val (.long old), .second, .val (.long x), .second, .val (.long s'), .second, .val (.int ids), .val (.int fl), .val (.int (1 : Int32)), .val (.int (0 : Int32)), .val (.int (0 : Int32)), .val (.long jj), .second, .val (.long tt), .second, .val .null, .val .null, .unset, .unset, .unset, .unset, .unset, .unset, .unset, .unset, .unset, .unset]) rfl ?_
  show Steps p.tables e below (T0.setTop (mkF m 98 #[.val (.ref pq), .val (.ref arr), .val (.long old), .second, .val (.long x), .second, .val (.long s'), .second, .val (.int ids), .val (.int fl), .val (.int (1 : Int32)), .val (.int (0 : Int32)), .val (.int (0 : Int32)), .val (.long jj), .second, .val (.long tt), .second, .val .null, .val .null, .unset, .unset, .unset, .unset, .unset, .unset, .unset, .unset, .unset, .unset] [])) _
  refine XS.iload X0.here hx rfl (hb hby d3_98) rfl ?_
  refine XS.ifYes X0.here hx rfl (pc0 := 100) (pc' := 107) rfl (hb hby d3_100) rfl ((if0 _ _).trans (teq (rfl : (0 : Int32) = (0 : Int32))).1) (by decide) (by decide) ?_
  refine XS.lload X0.here hx rfl (hb hby d3_107) rfl ?_
  refine st2 _ ?_
  refine XS.astore X2.here hx rfl (hb hby d3_112) rfl rfl (l' := #[.val (.ref pq), .val (.ref arr), .val (.long old), .second, .val (.long x), .second, .val (.long s'), .second, .val (.int ids), .val (.int fl), .val (.int (1 : Int32)), .val (.int (0 : Int32)), .val (.int (0 : Int32)), .val (.long jj), .second, .val (.long tt), .second, .val .null, .val .null, .val (.ref av2), .unset, .unset, .unset, .unset, .unset, .unset, .unset, .unset, .unset]) rfl ?_
  refine XS.iload X2.here hx rfl (hb hby d3_114) rfl ?_
  refine XS.ifYes X2.here hx rfl (pc0 := 116) (pc' := 123) rfl (hb hby d3_116) rfl ((if0 _ _).trans (teq (rfl : (0 : Int32) = (0 : Int32))).1) (by decide) (by decide) ?_
  refine XS.lload X2.here hx rfl (hb hby d3_123) rfl ?_
  refine st4 _ ?_
  show Steps p.tables e below (T4.setTop (mkF m 128 #[.val (.ref pq), .val (.ref arr), .val (.long old), .second, .val (.long x), .second, .val (.long s'), .second, .val (.int ids), .val (.int fl), .val (.int (1 : Int32)), .val (.int (0 : Int32)), .val (.int (0 : Int32)), .val (.long jj), .second, .val (.long tt), .second, .val .null, .val .null, .val (.ref av2), .unset, .unset, .unset, .unset, .unset, .unset, .unset, .unset, .unset] [(.ref av4)])) _
  refine XS.astore X4.here hx rfl (hb hby d3_128) rfl rfl (l' := #[.val (.ref pq), .val (.ref arr), .val (.long old), .second, .val (.long x), .second, .val (.long s'), .second, .val (.int ids), .val (.int fl), .val (.int (1 : Int32)), .val (.int (0 : Int32)), .val (.int (0 : Int32)), .val (.long jj), .second, .val (.long tt), .second, .val .null, .val .null, .val (.ref av2), .val (.ref av4), .unset, .unset, .unset, .unset, .unset, .unset, .unset, .unset]) rfl ?_
  refine XS.aloadN X4.here hx rfl (hb hby d3_130) rfl rfl ?_
  refine XS.lloadN X4.here hx rfl (hb hby d3_131) rfl ?_
  refine XS.aload X4.here hx rfl (hb hby d3_132) rfl rfl ?_
  refine XS.aload X4.here hx rfl (hb hby d3_134) rfl rfl ?_
  refine XS.aload X4.here hx rfl (hb hby d3_136) rfl rfl ?_
  refine XS.aload X4.here hx rfl (hb hby d3_138) rfl rfl ?_
  refine st17.trans ?_
  exact kt
set_option maxRecDepth 65536 in
set_option maxHeartbeats 40000000 in
theorem s1_101 {p : Program} {l : Launch} {e : Env} {s : State} {m : MethodId} {args : Array Value} {below : List Frame} {meth : Method} {c : Code} {T0 : State} {Z : State} {a0 : Array Value} {h0 : Heap} {n0 : Nat} (pq : Addr) (arr : Addr) (k : ClassId) (cb : Addr) (old : Int64) (x : Int64) (s' : Int64) (ids : Int32) (fl : Int32) (fx : Int64) (fs : Int64) (jr : Value) (sn : Value) (oj : Option Int64) (v2 : Int64) (v3 : Int64) (jj : Int64) (tt : Int64)
    (X0 : Stand p l e rr_4_4_4_53 s m args below meth c T0 [] 0 0) (hx : p.tables.exec = Jvm.exec) (hZ : Z.Warmed39 s.vm) (hw : ∀ d ∈ tables_1, d.before a0 Z = true) (hby : c.code = method_4_code) (hml : c.maxLocals = 29) (hown : s.vm.findClass "com/example/keyed_work_queue/keyedworkqueue/PendingFoundPinLaw" = some m.cls) (e0 : T0.heap = h0) (Z0 : n0 ≤ h0.size) (N0 : Fr n0 []) (hjj : ((1000 : Int64) + ((ids &&& (3 : Int32)).toInt64)) = jj) (htt : ((1000 : Int64) + (((ids >>> ((2 : Int32) &&& 31)) &&& (3 : Int32)).toInt64)) = tt) (g0_pq : n0 ≤ pq) (g0_arr : n0 ≤ arr) (PA : PdAt Z h0 pq fx fs jr sn) (O0 : Old Z n0 h0) (SC : Sta Z Z.heap "java/lang/Long$LongCache" "cache" "[Ljava/lang/Long;" (.ref cb)) (LC : LCache Z cb) (LJ : LR Z h0 jr oj) (VA : Arv Z h0 arr k .long (4 : Int32) [(.long fx), (.long fs), (.long v2), (.long v3)] (.long (0 : Int64))) (hc4 : ¬ ((fl &&& (1 : Int32)) = (0 : Int32))) (hc18 : (fl &&& (2 : Int32)) = (0 : Int32)) (hc32 : ¬ ((fl &&& (4 : Int32)) = (0 : Int32))) :
    ∃ (T' : State) (h' : Heap) (L' : List Loc) (jr' r1 r2 r3 r4 : Value), Stand p l e rr_4_4_4_53 s m args below meth c T' L' 1 1 ∧ T'.heap = h' ∧ Fr n0 L' ∧ (PdAt Z h' pq (own_fl oj (own_or (some jj) none) (fx, fs) (own_cand old none)).1 (own_fl oj (own_or (some jj) none) (fx, fs) (own_cand old none)).2 jr' (.int (0 : Int32)) ∧ LR Z h' jr' (own_jo oj (some jj) none) ∧ Arv Z h' arr k .long (4 : Int32) [(.long fx), (.long fs), (.long v2), (.long v3)] (.long (0 : Int64)) ∧ Old Z n0 h' ∧ Keep h0 h' [pq]) ∧
      ∀ target, Steps p.tables e below (T'.setTop (mkF m 143 #[.val (.ref pq), .val (.ref arr), .val (.long old), .second, .val (.long x), .second, .val (.long s'), .second, .val (.int ids), .val (.int fl), .val (.int (1 : Int32)), .val (.int (0 : Int32)), .val (.int (1 : Int32)), .val (.long jj), .second, .val (.long tt), .second, .val r1, .val r2, .val r3, .val r4, .unset, .unset, .unset, .unset, .unset, .unset, .unset, .unset] [])) target → Steps p.tables e below (T0.setTop (mkF m 0 #[.val (.ref pq), .val (.ref arr), .val (.long old), .second, .val (.long x), .second, .val (.long s'), .second, .val (.int ids), .val (.int fl), .unset, .unset, .unset, .unset, .unset, .unset, .unset, .unset, .unset, .unset, .unset, .unset, .unset, .unset, .unset, .unset, .unset, .unset, .unset] [])) target := by
  obtain ⟨Epd1, Fapd1, Fbpd1, Fcpd1, Fdpd1⟩ := PA
  have ne_pq_arr : pq ≠ arr := own_pe Epd1 VA (ow hw 1 rfl)
  obtain ⟨_, _, ⟨T2, L2, k2, n2⟩, -, X2, ⟨Lc2, hQ2, l2, y2, z2⟩, st2⟩ := Jvm.LawKit.callS X0 hx (y := nm_4) hown (mvT hZ (ow hw 23 rfl)) (mvT hZ (ow hw 24 rfl)) (mvT hZ (ow hw 25 rfl)) (mvT hZ (ow hw 26 rfl)) (by decide) (backOf (W := 0) (rm4 l Z a0 hw [] jj cb h0 n0 Z0 O0 SC LC) hZ (ow hw 26 rfl) (ow hw 25 rfl) (by decide) (by decide)) (g := (mkF m 109 #[.val (.ref pq), .val (.ref arr), .val (.long old), .second, .val (.long x), .second, .val (.long s'), .second, .val (.int ids), .val (.int fl), .val (.int (1 : Int32)), .val (.int (0 : Int32)), .val (.int (1 : Int32)), .val (.long jj), .second, .val (.long tt), .second, .val .null, .val .null, .unset, .unset, .unset, .unset, .unset, .unset, .unset, .unset, .unset, .unset] [(.long jj)])) rfl (by rw [hml]; rfl) (argsL := [(.long jj)]) (rest := []) (lenOf pd_2 rfl) rfl (by show 2 * 0 + _ ≤ _; exact Nat.le_of_eq rfl) (hb hby d3_109) (fun _ _ => ⟨rfl, e0, (by decide : 0 + 1 ≤ _), (by decide : 0 + 1 ≤ _)⟩)
  dsimp only [Pt.U, Pt.locs, Pt.cells, Pt.slots] at X2 l2 y2 z2 st2 hQ2
  subst l2 y2 z2
  obtain ⟨av2, rfl, N2q, Ev2, EE2, FF2⟩ := hQ2
  have N2 := Fr.app N0 N2q
  have LJ2 := LJ.ext Ev2
  have L3 : LR Z T2.heap (.ref av2) (some jj) := (Or.inr ⟨av2, _, rfl, rfl, EE2, FF2⟩)
  have L4 : LR Z T2.heap .null none := (Or.inl ⟨rfl, rfl⟩)
  have c3 := Epd1.ext Ev2
  have c4 := Fapd1.ext Ev2
  have c5 := Fbpd1.ext Ev2
  have c6 := Fcpd1.ext Ev2
  have c7 := Fdpd1.ext Ev2
  obtain ⟨cq8, kq8, q8a, q8b, q8c⟩ := isOf hZ rfl c3
  obtain ⟨_, _, ⟨T8, L8, k8, n8⟩, -, X8, ⟨Lc8, hQ8, l8, y8, z8⟩, st8⟩ := X2.virtualBack hx (y := nm_7) (z := nm_7) hown (mvT hZ (ow hw 46 rfl)) (mvT hZ (ow hw 47 rfl)) (notFace_of_selects (args := #[]) (mvT hZ (ow hw 49 rfl))) (mvT hZ (ow hw 49 rfl)) (mvT hZ (ow hw 48 rfl)) (by decide) (backOf (W := 0) (rm7 l Z a0 hw [] old pq fx fs jr sn .null .null (.ref av2) .null none (some jj) none oj T2.heap n0 (Nat.le_trans Z0 Ev2.1) g0_pq ⟨c3, c4, c5, c6, c7⟩ (Or.inl ⟨rfl, rfl, rfl⟩) L3 L4 LJ2) hZ (ow hw 50 rfl) (ow hw 2 rfl) (by decide) (by decide)) q8a q8c (g := (mkF m 140 #[.val (.ref pq), .val (.ref arr), .val (.long old), .second, .val (.long x), .second, .val (.long s'), .second, .val (.int ids), .val (.int fl), .val (.int (1 : Int32)), .val (.int (0 : Int32)), .val (.int (1 : Int32)), .val (.long jj), .second, .val (.long tt), .second, .val .null, .val .null, .val (.ref av2), .val .null, .unset, .unset, .unset, .unset, .unset, .unset, .unset, .unset] [.null, (.ref av2), .null, .null, (.long old), (.ref pq)])) rfl (by rw [hml]; rfl) (Steps.refl _) (argsL := [(.long old), .null, .null, (.ref av2), .null]) (rest := []) (lenOf pd_4 rfl) rfl (by show 2 * 0 + _ ≤ _; exact Nat.le_of_eq rfl) (hb hby d3_140) (fun _ _ => ⟨rfl, rfl, (by decide : 1 + 0 ≤ _), (by decide : 1 + 0 ≤ _)⟩)
  dsimp only [Pt.U, Pt.locs, Pt.cells, Pt.slots] at X8 l8 y8 z8 st8 hQ8
  subst l8 y8 z8
  obtain ⟨rfl, N8q, K8, PB8⟩ := hQ8
  have N8 := Fr.app N2 N8q
  have LN : LR Z T8.heap (own_jr oj (some jj) none (.ref av2) .null) (own_jo oj (some jj) none) := (LR_new L3 L4).keepP K8 c3 (by decide)
  have kp9 : Keep h0 T8.heap [pq] := (((Keep.refl h0 [pq]).ext Ev2).trans K8 (allS (Or.inl (List.mem_of_getElem? (i := 0) rfl)) all0))
  have c10 := VA.ext Ev2
  have c11 := c10.keep K8 (ninS (Ne.symm ne_pq_arr) nin0)
  have c12 := O0.ext Ev2
  have c13 := c12.keep K8 (allS g0_pq all0)
  refine ⟨T8, _, _, _, .null, .null, (.ref av2), .null, X8, rfl, N8, ⟨PB8, LN, c11, c13, kp9⟩, fun target kt => ?_⟩
  show Steps p.tables e below (T0.setTop (mkF m 0 #[.val (.ref pq), .val (.ref arr), .val (.long old), .second, .val (.long x), .second, .val (.long s'), .second, .val (.int ids), .val (.int fl), .unset, .unset, .unset, .unset, .unset, .unset, .unset, .unset, .unset, .unset, .unset, .unset, .unset, .unset, .unset, .unset, .unset, .unset, .unset] [])) _
  refine XS.iload X0.here hx rfl (hb hby d3_0) rfl ?_
  refine XS.iconst X0.here hx rfl (hb hby d3_2) ?_
  refine XS.iand X0.here hx rfl (hb hby d3_3) rfl ?_
  refine XS.ifNo X0.here hx rfl (hb hby d3_4) rfl ((if0 _ _).trans (feq hc4).1) ?_
  refine XS.iconst X0.here hx rfl (hb hby d3_7) ?_
  refine XS.goto X0.here hx rfl (pc0 := 8) (pc' := 12) rfl (hb hby d3_8) (by decide) (by decide) ?_
  refine XS.istore X0.here hx rfl (hb hby d3_12) rfl (l' := #[.val (.ref pq), .val (.ref arr), .val (.long old), .second, .val (.long x), .second, .val (.long s'), .second, .val (.int ids), .val (.int fl), .val (.int (1 : Int32)), .unset, .unset, .unset, .unset, .unset, .unset, .unset, .unset, .unset, .unset, .unset, .unset, .unset, .unset, .unset, .unset, .unset, .unset]) rfl ?_
  refine XS.iload X0.here hx rfl (hb hby d3_14) rfl ?_
  refine XS.iconst X0.here hx rfl (hb hby d3_16) ?_
  show Steps p.tables e below (T0.setTop (mkF m 17 #[.val (.ref pq), .val (.ref arr), .val (.long old), .second, .val (.long x), .second, .val (.long s'), .second, .val (.int ids), .val (.int fl), .val (.int (1 : Int32)), .unset, .unset, .unset, .unset, .unset, .unset, .unset, .unset, .unset, .unset, .unset, .unset, .unset, .unset, .unset, .unset, .unset, .unset] [(.int (2 : Int32)), (.int fl)])) _
  refine XS.iand X0.here hx rfl (hb hby d3_17) rfl ?_
  refine XS.ifYes X0.here hx rfl (pc0 := 18) (pc' := 25) rfl (hb hby d3_18) rfl ((if0 _ _).trans (teq hc18).1) (by decide) (by decide) ?_
  refine XS.iconst X0.here hx rfl (hb hby d3_25) ?_
  refine XS.istore X0.here hx rfl (hb hby d3_26) rfl (l' := #[.val (.ref pq), .val (.ref arr), .val (.long old), .second, .val (.long x), .second, .val (.long s'), .second, .val (.int ids), .val (.int fl), .val (.int (1 : Int32)), .val (.int (0 : Int32)), .unset, .unset, .unset, .unset, .unset, .unset, .unset, .unset, .unset, .unset, .unset, .unset, .unset, .unset, .unset, .unset, .unset]) rfl ?_
  refine XS.iload X0.here hx rfl (hb hby d3_28) rfl ?_
  refine XS.iconst X0.here hx rfl (hb hby d3_30) ?_
  refine XS.iand X0.here hx rfl (hb hby d3_31) rfl ?_
  refine XS.ifNo X0.here hx rfl (hb hby d3_32) rfl ((if0 _ _).trans (feq hc32).1) ?_
  refine XS.iconst X0.here hx rfl (hb hby d3_35) ?_
  show Steps p.tables e below (T0.setTop (mkF m 36 #[.val (.ref pq), .val (.ref arr), .val (.long old), .second, .val (.long x), .second, .val (.long s'), .second, .val (.int ids), .val (.int fl), .val (.int (1 : Int32)), .val (.int (0 : Int32)), .unset, .unset, .unset, .unset, .unset, .unset, .unset, .unset, .unset, .unset, .unset, .unset, .unset, .unset, .unset, .unset, .unset] [(.int (1 : Int32))])) _
  refine XS.goto X0.here hx rfl (pc0 := 36) (pc' := 40) rfl (hb hby d3_36) (by decide) (by decide) ?_
  refine XS.istore X0.here hx rfl (hb hby d3_40) rfl (l' := #[.val (.ref pq), .val (.ref arr), .val (.long old), .second, .val (.long x), .second, .val (.long s'), .second, .val (.int ids), .val (.int fl), .val (.int (1 : Int32)), .val (.int (0 : Int32)), .val (.int (1 : Int32)), .unset, .unset, .unset, .unset, .unset, .unset, .unset, .unset, .unset, .unset, .unset, .unset, .unset, .unset, .unset, .unset]) rfl ?_
  refine X0.ldc2Long hx hown (mvT hZ (ow hw 22 rfl)) (g := (mkF m 42 #[.val (.ref pq), .val (.ref arr), .val (.long old), .second, .val (.long x), .second, .val (.long s'), .second, .val (.int ids), .val (.int fl), .val (.int (1 : Int32)), .val (.int (0 : Int32)), .val (.int (1 : Int32)), .unset, .unset, .unset, .unset, .unset, .unset, .unset, .unset, .unset, .unset, .unset, .unset, .unset, .unset, .unset, .unset] [])) rfl (hb hby d3_42) _ ?_
  refine XS.iload X0.here hx rfl (hb hby d3_45) rfl ?_
  refine XS.iconst X0.here hx rfl (hb hby d3_47) ?_
  refine XS.iand X0.here hx rfl (hb hby d3_48) rfl ?_
  refine XS.i2l X0.here hx rfl (hb hby d3_49) rfl ?_
  refine XS.ladd X0.here hx rfl (hb hby d3_50) rfl ?_
  show Steps p.tables e below (T0.setTop (mkF m 51 #[.val (.ref pq), .val (.ref arr), .val (.long old), .second, .val (.long x), .second, .val (.long s'), .second, .val (.int ids), .val (.int fl), .val (.int (1 : Int32)), .val (.int (0 : Int32)), .val (.int (1 : Int32)), .unset, .unset, .unset, .unset, .unset, .unset, .unset, .unset, .unset, .unset, .unset, .unset, .unset, .unset, .unset, .unset] [(.long ((1000 : Int64) + ((ids &&& (3 : Int32)).toInt64)))])) _
  rw [hjj]
  refine XS.lstore X0.here hx rfl (hb hby d3_51) rfl (l' := #[.val (.ref pq), .val (.ref arr), .val (.long old), .second, .val (.long x), .second, .val (.long s'), .second, .val (.int ids), .val (.int fl), .val (.int (1 : Int32)), .val (.int (0 : Int32)), .val (.int (1 : Int32)), .val (.long jj), .second, .unset, .unset, .unset, .unset, .unset, .unset, .unset, .unset, .unset, .unset, .unset, .unset, .unset, .unset]) rfl ?_
  show Steps p.tables e below (T0.setTop (mkF m 53 #[.val (.ref pq), .val (.ref arr), .val (.long old), .second, .val (.long x), .second, .val (.long s'), .second, .val (.int ids), .val (.int fl), .val (.int (1 : Int32)), .val (.int (0 : Int32)), .val (.int (1 : Int32)), .val (.long jj), .second, .unset, .unset, .unset, .unset, .unset, .unset, .unset, .unset, .unset, .unset, .unset, .unset, .unset, .unset] [])) _
  refine X0.ldc2Long hx hown (mvT hZ (ow hw 22 rfl)) (g := (mkF m 53 #[.val (.ref pq), .val (.ref arr), .val (.long old), .second, .val (.long x), .second, .val (.long s'), .second, .val (.int ids), .val (.int fl), .val (.int (1 : Int32)), .val (.int (0 : Int32)), .val (.int (1 : Int32)), .val (.long jj), .second, .unset, .unset, .unset, .unset, .unset, .unset, .unset, .unset, .unset, .unset, .unset, .unset, .unset, .unset] [])) rfl (hb hby d3_53) _ ?_
  refine XS.iload X0.here hx rfl (hb hby d3_56) rfl ?_
  refine XS.iconst X0.here hx rfl (hb hby d3_58) ?_
  refine XS.ishr X0.here hx rfl (hb hby d3_59) rfl ?_
  refine XS.iconst X0.here hx rfl (hb hby d3_60) ?_
  refine XS.iand X0.here hx rfl (hb hby d3_61) rfl ?_
  refine XS.i2l X0.here hx rfl (hb hby d3_62) rfl ?_
  refine XS.ladd X0.here hx rfl (hb hby d3_63) rfl ?_
  show Steps p.tables e below (T0.setTop (mkF m 64 #[.val (.ref pq), .val (.ref arr), .val (.long old), .second, .val (.long x), .second, .val (.long s'), .second, .val (.int ids), .val (.int fl), .val (.int (1 : Int32)), .val (.int (0 : Int32)), .val (.int (1 : Int32)), .val (.long jj), .second, .unset, .unset, .unset, .unset, .unset, .unset, .unset, .unset, .unset, .unset, .unset, .unset, .unset, .unset] [(.long ((1000 : Int64) + (((ids >>> ((2 : Int32) &&& 31)) &&& (3 : Int32)).toInt64)))])) _
  rw [htt]
  refine XS.lstore X0.here hx rfl (hb hby d3_64) rfl (l' := #[.val (.ref pq), .val (.ref arr), .val (.long old), .second, .val (.long x), .second, .val (.long s'), .second, .val (.int ids), .val (.int fl), .val (.int (1 : Int32)), .val (.int (0 : Int32)), .val (.int (1 : Int32)), .val (.long jj), .second, .val (.long tt), .second, .unset, .unset, .unset, .unset, .unset, .unset, .unset, .unset, .unset, .unset, .unset, .unset]) rfl ?_
  show Steps p.tables e below (T0.setTop (mkF m 66 #[.val (.ref pq), .val (.ref arr), .val (.long old), .second, .val (.long x), .second, .val (.long s'), .second, .val (.int ids), .val (.int fl), .val (.int (1 : Int32)), .val (.int (0 : Int32)), .val (.int (1 : Int32)), .val (.long jj), .second, .val (.long tt), .second, .unset, .unset, .unset, .unset, .unset, .unset, .unset, .unset, .unset, .unset, .unset, .unset] [])) _
  refine XS.iload X0.here hx rfl (hb hby d3_66) rfl ?_
  refine XS.ifNo X0.here hx rfl (hb hby d3_68) rfl ((if0 _ _).trans (feq ((by decide) : ¬ ((1 : Int32) = (0 : Int32)))).1) ?_
  refine XS.aconstNull X0.here hx rfl (hb hby d3_71) ?_
  refine XS.goto X0.here hx rfl (pc0 := 72) (pc' := 80) rfl (hb hby d3_72) (by decide) (by decide) ?_
  refine XS.astore X0.here hx rfl (hb hby d3_80) rfl rfl (l' := #[.val (.ref pq), .val (.ref arr), .val (.long old), .second, .val (.long x), .second, .val (.long s'), .second, .val (.int ids), .val (.int fl), .val (.int (1 : Int32)), .val (.int (0 : Int32)), .val (.int (1 : Int32)), .val (.long jj), .second, .val (.long tt), .second, .val .null, .unset, .unset, .unset, .unset, .unset, .unset, .unset, .unset, .unset, .unset, .unset]) rfl ?_
  refine XS.iload X0.here hx rfl (hb hby d3_82) rfl ?_
  refine XS.ifNo X0.here hx rfl (hb hby d3_84) rfl ((if0 _ _).trans (feq ((by decide) : ¬ ((1 : Int32) = (0 : Int32)))).1) ?_
  refine XS.aconstNull X0.here hx rfl (hb hby d3_87) ?_
  refine XS.goto X0.here hx rfl (pc0 := 88) (pc' := 96) rfl (hb hby d3_88) (by decide) (by decide) ?_
  show Steps p.tables e below (T0.setTop (mkF m 96 #[.val (.ref pq), .val (.ref arr), .val (.long old), .second, .val (.long x), .second, .val (.long s'), .second, .val (.int ids), .val (.int fl), .val (.int (1 : Int32)), .val (.int (0 : Int32)), .val (.int (1 : Int32)), .val (.long jj), .second, .val (.long tt), .second, .val .null, .unset, .unset, .unset, .unset, .unset, .unset, .unset, .unset, .unset, .unset, .unset] [.null])) _
  refine XS.astore X0.here hx rfl (hb hby d3_96) rfl rfl (l' := #[.val (.ref pq), .val (.ref arr), .val (.long old), .second, .val (.long x), .second, .val (.long s'), .second, .val (.int ids), .val (.int fl), .val (.int (1 : Int32)), .val (.int (0 : Int32)), .val (.int (1 : Int32)), .val (.long jj), .second, .val (.long tt), .second, .val .null, .val .null, .unset, .unset, .unset, .unset, .unset, .unset, .unset, .unset, .unset, .unset]) rfl ?_
  refine XS.iload X0.here hx rfl (hb hby d3_98) rfl ?_
  refine XS.ifYes X0.here hx rfl (pc0 := 100) (pc' := 107) rfl (hb hby d3_100) rfl ((if0 _ _).trans (teq (rfl : (0 : Int32) = (0 : Int32))).1) (by decide) (by decide) ?_
  refine XS.lload X0.here hx rfl (hb hby d3_107) rfl ?_
  refine st2 _ ?_
  refine XS.astore X2.here hx rfl (hb hby d3_112) rfl rfl (l' := #[.val (.ref pq), .val (.ref arr), .val (.long old), .second, .val (.long x), .second, .val (.long s'), .second, .val (.int ids), .val (.int fl), .val (.int (1 : Int32)), .val (.int (0 : Int32)), .val (.int (1 : Int32)), .val (.long jj), .second, .val (.long tt), .second, .val .null, .val .null, .val (.ref av2), .unset, .unset, .unset, .unset, .unset, .unset, .unset, .unset, .unset]) rfl ?_
  refine XS.iload X2.here hx rfl (hb hby d3_114) rfl ?_
  refine XS.ifNo X2.here hx rfl (hb hby d3_116) rfl ((if0 _ _).trans (feq ((by decide) : ¬ ((1 : Int32) = (0 : Int32)))).1) ?_
  refine XS.aconstNull X2.here hx rfl (hb hby d3_119) ?_
  show Steps p.tables e below (T2.setTop (mkF m 120 #[.val (.ref pq), .val (.ref arr), .val (.long old), .second, .val (.long x), .second, .val (.long s'), .second, .val (.int ids), .val (.int fl), .val (.int (1 : Int32)), .val (.int (0 : Int32)), .val (.int (1 : Int32)), .val (.long jj), .second, .val (.long tt), .second, .val .null, .val .null, .val (.ref av2), .unset, .unset, .unset, .unset, .unset, .unset, .unset, .unset, .unset] [.null])) _
  refine XS.goto X2.here hx rfl (pc0 := 120) (pc' := 128) rfl (hb hby d3_120) (by decide) (by decide) ?_
  refine XS.astore X2.here hx rfl (hb hby d3_128) rfl rfl (l' := #[.val (.ref pq), .val (.ref arr), .val (.long old), .second, .val (.long x), .second, .val (.long s'), .second, .val (.int ids), .val (.int fl), .val (.int (1 : Int32)), .val (.int (0 : Int32)), .val (.int (1 : Int32)), .val (.long jj), .second, .val (.long tt), .second, .val .null, .val .null, .val (.ref av2), .val .null, .unset, .unset, .unset, .unset, .unset, .unset, .unset, .unset]) rfl ?_
  refine XS.aloadN X2.here hx rfl (hb hby d3_130) rfl rfl ?_
  refine XS.lloadN X2.here hx rfl (hb hby d3_131) rfl ?_
  refine XS.aload X2.here hx rfl (hb hby d3_132) rfl rfl ?_
  refine XS.aload X2.here hx rfl (hb hby d3_134) rfl rfl ?_
  refine XS.aload X2.here hx rfl (hb hby d3_136) rfl rfl ?_
  refine XS.aload X2.here hx rfl (hb hby d3_138) rfl rfl ?_
  refine st8.trans ?_
  exact kt
set_option maxRecDepth 65536 in
set_option maxHeartbeats 40000000 in
theorem s1_110 {p : Program} {l : Launch} {e : Env} {s : State} {m : MethodId} {args : Array Value} {below : List Frame} {meth : Method} {c : Code} {T0 : State} {Z : State} {a0 : Array Value} {h0 : Heap} {n0 : Nat} (pq : Addr) (arr : Addr) (k : ClassId) (cb : Addr) (old : Int64) (x : Int64) (s' : Int64) (ids : Int32) (fl : Int32) (fx : Int64) (fs : Int64) (jr : Value) (sn : Value) (oj : Option Int64) (v2 : Int64) (v3 : Int64) (jj : Int64) (tt : Int64)
    (X0 : Stand p l e rr_4_4_4_53 s m args below meth c T0 [] 0 0) (hx : p.tables.exec = Jvm.exec) (hZ : Z.Warmed39 s.vm) (hw : ∀ d ∈ tables_1, d.before a0 Z = true) (hby : c.code = method_4_code) (hml : c.maxLocals = 29) (hown : s.vm.findClass "com/example/keyed_work_queue/keyedworkqueue/PendingFoundPinLaw" = some m.cls) (e0 : T0.heap = h0) (Z0 : n0 ≤ h0.size) (N0 : Fr n0 []) (hjj : ((1000 : Int64) + ((ids &&& (3 : Int32)).toInt64)) = jj) (htt : ((1000 : Int64) + (((ids >>> ((2 : Int32) &&& 31)) &&& (3 : Int32)).toInt64)) = tt) (g0_pq : n0 ≤ pq) (g0_arr : n0 ≤ arr) (PA : PdAt Z h0 pq fx fs jr sn) (O0 : Old Z n0 h0) (SC : Sta Z Z.heap "java/lang/Long$LongCache" "cache" "[Ljava/lang/Long;" (.ref cb)) (LC : LCache Z cb) (LJ : LR Z h0 jr oj) (VA : Arv Z h0 arr k .long (4 : Int32) [(.long fx), (.long fs), (.long v2), (.long v3)] (.long (0 : Int64))) (hc4 : ¬ ((fl &&& (1 : Int32)) = (0 : Int32))) (hc18 : ¬ ((fl &&& (2 : Int32)) = (0 : Int32))) (hc32 : (fl &&& (4 : Int32)) = (0 : Int32)) :
    ∃ (T' : State) (h' : Heap) (L' : List Loc) (jr' r1 r2 r3 r4 : Value), Stand p l e rr_4_4_4_53 s m args below meth c T' L' 1 1 ∧ T'.heap = h' ∧ Fr n0 L' ∧ (PdAt Z h' pq (own_fl oj (own_or none (some tt)) (fx, fs) (own_cand old none)).1 (own_fl oj (own_or none (some tt)) (fx, fs) (own_cand old none)).2 jr' (.int (0 : Int32)) ∧ LR Z h' jr' (own_jo oj none (some tt)) ∧ Arv Z h' arr k .long (4 : Int32) [(.long fx), (.long fs), (.long v2), (.long v3)] (.long (0 : Int64)) ∧ Old Z n0 h' ∧ Keep h0 h' [pq]) ∧
      ∀ target, Steps p.tables e below (T'.setTop (mkF m 143 #[.val (.ref pq), .val (.ref arr), .val (.long old), .second, .val (.long x), .second, .val (.long s'), .second, .val (.int ids), .val (.int fl), .val (.int (1 : Int32)), .val (.int (1 : Int32)), .val (.int (0 : Int32)), .val (.long jj), .second, .val (.long tt), .second, .val r1, .val r2, .val r3, .val r4, .unset, .unset, .unset, .unset, .unset, .unset, .unset, .unset] [])) target → Steps p.tables e below (T0.setTop (mkF m 0 #[.val (.ref pq), .val (.ref arr), .val (.long old), .second, .val (.long x), .second, .val (.long s'), .second, .val (.int ids), .val (.int fl), .unset, .unset, .unset, .unset, .unset, .unset, .unset, .unset, .unset, .unset, .unset, .unset, .unset, .unset, .unset, .unset, .unset, .unset, .unset] [])) target := by
  obtain ⟨Epd1, Fapd1, Fbpd1, Fcpd1, Fdpd1⟩ := PA
  have ne_pq_arr : pq ≠ arr := own_pe Epd1 VA (ow hw 1 rfl)
  obtain ⟨_, _, ⟨T2, L2, k2, n2⟩, -, X2, ⟨Lc2, hQ2, l2, y2, z2⟩, st2⟩ := Jvm.LawKit.callS X0 hx (y := nm_4) hown (mvT hZ (ow hw 23 rfl)) (mvT hZ (ow hw 24 rfl)) (mvT hZ (ow hw 25 rfl)) (mvT hZ (ow hw 26 rfl)) (by decide) (backOf (W := 0) (rm4 l Z a0 hw [] tt cb h0 n0 Z0 O0 SC LC) hZ (ow hw 26 rfl) (ow hw 25 rfl) (by decide) (by decide)) (g := (mkF m 125 #[.val (.ref pq), .val (.ref arr), .val (.long old), .second, .val (.long x), .second, .val (.long s'), .second, .val (.int ids), .val (.int fl), .val (.int (1 : Int32)), .val (.int (1 : Int32)), .val (.int (0 : Int32)), .val (.long jj), .second, .val (.long tt), .second, .val .null, .val .null, .val .null, .unset, .unset, .unset, .unset, .unset, .unset, .unset, .unset, .unset] [(.long tt)])) rfl (by rw [hml]; rfl) (argsL := [(.long tt)]) (rest := []) (lenOf pd_2 rfl) rfl (by show 2 * 0 + _ ≤ _; exact Nat.le_of_eq rfl) (hb hby d3_125) (fun _ _ => ⟨rfl, e0, (by decide : 0 + 1 ≤ _), (by decide : 0 + 1 ≤ _)⟩)
  dsimp only [Pt.U, Pt.locs, Pt.cells, Pt.slots] at X2 l2 y2 z2 st2 hQ2
  subst l2 y2 z2
  obtain ⟨av2, rfl, N2q, Ev2, EE2, FF2⟩ := hQ2
  have N2 := Fr.app N0 N2q
  have LJ2 := LJ.ext Ev2
  have L3 : LR Z T2.heap .null none := (Or.inl ⟨rfl, rfl⟩)
  have L4 : LR Z T2.heap (.ref av2) (some tt) := (Or.inr ⟨av2, _, rfl, rfl, EE2, FF2⟩)
  have c3 := Epd1.ext Ev2
  have c4 := Fapd1.ext Ev2
  have c5 := Fbpd1.ext Ev2
  have c6 := Fcpd1.ext Ev2
  have c7 := Fdpd1.ext Ev2
  obtain ⟨cq8, kq8, q8a, q8b, q8c⟩ := isOf hZ rfl c3
  obtain ⟨_, _, ⟨T8, L8, k8, n8⟩, -, X8, ⟨Lc8, hQ8, l8, y8, z8⟩, st8⟩ := X2.virtualBack hx (y := nm_7) (z := nm_7) hown (mvT hZ (ow hw 46 rfl)) (mvT hZ (ow hw 47 rfl)) (notFace_of_selects (args := #[]) (mvT hZ (ow hw 49 rfl))) (mvT hZ (ow hw 49 rfl)) (mvT hZ (ow hw 48 rfl)) (by decide) (backOf (W := 0) (rm7 l Z a0 hw [] old pq fx fs jr sn .null .null .null (.ref av2) none none (some tt) oj T2.heap n0 (Nat.le_trans Z0 Ev2.1) g0_pq ⟨c3, c4, c5, c6, c7⟩ (Or.inl ⟨rfl, rfl, rfl⟩) L3 L4 LJ2) hZ (ow hw 50 rfl) (ow hw 2 rfl) (by decide) (by decide)) q8a q8c (g := (mkF m 140 #[.val (.ref pq), .val (.ref arr), .val (.long old), .second, .val (.long x), .second, .val (.long s'), .second, .val (.int ids), .val (.int fl), .val (.int (1 : Int32)), .val (.int (1 : Int32)), .val (.int (0 : Int32)), .val (.long jj), .second, .val (.long tt), .second, .val .null, .val .null, .val .null, .val (.ref av2), .unset, .unset, .unset, .unset, .unset, .unset, .unset, .unset] [(.ref av2), .null, .null, .null, (.long old), (.ref pq)])) rfl (by rw [hml]; rfl) (Steps.refl _) (argsL := [(.long old), .null, .null, .null, (.ref av2)]) (rest := []) (lenOf pd_4 rfl) rfl (by show 2 * 0 + _ ≤ _; exact Nat.le_of_eq rfl) (hb hby d3_140) (fun _ _ => ⟨rfl, rfl, (by decide : 1 + 0 ≤ _), (by decide : 1 + 0 ≤ _)⟩)
  dsimp only [Pt.U, Pt.locs, Pt.cells, Pt.slots] at X8 l8 y8 z8 st8 hQ8
  subst l8 y8 z8
  obtain ⟨rfl, N8q, K8, PB8⟩ := hQ8
  have N8 := Fr.app N2 N8q
  have LN : LR Z T8.heap (own_jr oj none (some tt) .null (.ref av2)) (own_jo oj none (some tt)) := (LR_new L3 L4).keepP K8 c3 (by decide)
  have kp9 : Keep h0 T8.heap [pq] := (((Keep.refl h0 [pq]).ext Ev2).trans K8 (allS (Or.inl (List.mem_of_getElem? (i := 0) rfl)) all0))
  have c10 := VA.ext Ev2
  have c11 := c10.keep K8 (ninS (Ne.symm ne_pq_arr) nin0)
  have c12 := O0.ext Ev2
  have c13 := c12.keep K8 (allS g0_pq all0)
  refine ⟨T8, _, _, _, .null, .null, .null, (.ref av2), X8, rfl, N8, ⟨PB8, LN, c11, c13, kp9⟩, fun target kt => ?_⟩
  show Steps p.tables e below (T0.setTop (mkF m 0 #[.val (.ref pq), .val (.ref arr), .val (.long old), .second, .val (.long x), .second, .val (.long s'), .second, .val (.int ids), .val (.int fl), .unset, .unset, .unset, .unset, .unset, .unset, .unset, .unset, .unset, .unset, .unset, .unset, .unset, .unset, .unset, .unset, .unset, .unset, .unset] [])) _
  refine XS.iload X0.here hx rfl (hb hby d3_0) rfl ?_
  refine XS.iconst X0.here hx rfl (hb hby d3_2) ?_
  refine XS.iand X0.here hx rfl (hb hby d3_3) rfl ?_
  refine XS.ifNo X0.here hx rfl (hb hby d3_4) rfl ((if0 _ _).trans (feq hc4).1) ?_
  refine XS.iconst X0.here hx rfl (hb hby d3_7) ?_
  refine XS.goto X0.here hx rfl (pc0 := 8) (pc' := 12) rfl (hb hby d3_8) (by decide) (by decide) ?_
  refine XS.istore X0.here hx rfl (hb hby d3_12) rfl (l' := #[.val (.ref pq), .val (.ref arr), .val (.long old), .second, .val (.long x), .second, .val (.long s'), .second, .val (.int ids), .val (.int fl), .val (.int (1 : Int32)), .unset, .unset, .unset, .unset, .unset, .unset, .unset, .unset, .unset, .unset, .unset, .unset, .unset, .unset, .unset, .unset, .unset, .unset]) rfl ?_
  refine XS.iload X0.here hx rfl (hb hby d3_14) rfl ?_
  refine XS.iconst X0.here hx rfl (hb hby d3_16) ?_
  show Steps p.tables e below (T0.setTop (mkF m 17 #[.val (.ref pq), .val (.ref arr), .val (.long old), .second, .val (.long x), .second, .val (.long s'), .second, .val (.int ids), .val (.int fl), .val (.int (1 : Int32)), .unset, .unset, .unset, .unset, .unset, .unset, .unset, .unset, .unset, .unset, .unset, .unset, .unset, .unset, .unset, .unset, .unset, .unset] [(.int (2 : Int32)), (.int fl)])) _
  refine XS.iand X0.here hx rfl (hb hby d3_17) rfl ?_
  refine XS.ifNo X0.here hx rfl (hb hby d3_18) rfl ((if0 _ _).trans (feq hc18).1) ?_
  refine XS.iconst X0.here hx rfl (hb hby d3_21) ?_
  refine XS.goto X0.here hx rfl (pc0 := 22) (pc' := 26) rfl (hb hby d3_22) (by decide) (by decide) ?_
  refine XS.istore X0.here hx rfl (hb hby d3_26) rfl (l' := #[.val (.ref pq), .val (.ref arr), .val (.long old), .second, .val (.long x), .second, .val (.long s'), .second, .val (.int ids), .val (.int fl), .val (.int (1 : Int32)), .val (.int (1 : Int32)), .unset, .unset, .unset, .unset, .unset, .unset, .unset, .unset, .unset, .unset, .unset, .unset, .unset, .unset, .unset, .unset, .unset]) rfl ?_
  refine XS.iload X0.here hx rfl (hb hby d3_28) rfl ?_
  refine XS.iconst X0.here hx rfl (hb hby d3_30) ?_
  refine XS.iand X0.here hx rfl (hb hby d3_31) rfl ?_
  refine XS.ifYes X0.here hx rfl (pc0 := 32) (pc' := 39) rfl (hb hby d3_32) rfl ((if0 _ _).trans (teq hc32).1) (by decide) (by decide) ?_
  show Steps p.tables e below (T0.setTop (mkF m 39 #[.val (.ref pq), .val (.ref arr), .val (.long old), .second, .val (.long x), .second, .val (.long s'), .second, .val (.int ids), .val (.int fl), .val (.int (1 : Int32)), .val (.int (1 : Int32)), .unset, .unset, .unset, .unset, .unset, .unset, .unset, .unset, .unset, .unset, .unset, .unset, .unset, .unset, .unset, .unset, .unset] [])) _
  refine XS.iconst X0.here hx rfl (hb hby d3_39) ?_
  refine XS.istore X0.here hx rfl (hb hby d3_40) rfl (l' := #[.val (.ref pq), .val (.ref arr), .val (.long old), .second, .val (.long x), .second, .val (.long s'), .second, .val (.int ids), .val (.int fl), .val (.int (1 : Int32)), .val (.int (1 : Int32)), .val (.int (0 : Int32)), .unset, .unset, .unset, .unset, .unset, .unset, .unset, .unset, .unset, .unset, .unset, .unset, .unset, .unset, .unset, .unset]) rfl ?_
  refine X0.ldc2Long hx hown (mvT hZ (ow hw 22 rfl)) (g := (mkF m 42 #[.val (.ref pq), .val (.ref arr), .val (.long old), .second, .val (.long x), .second, .val (.long s'), .second, .val (.int ids), .val (.int fl), .val (.int (1 : Int32)), .val (.int (1 : Int32)), .val (.int (0 : Int32)), .unset, .unset, .unset, .unset, .unset, .unset, .unset, .unset, .unset, .unset, .unset, .unset, .unset, .unset, .unset, .unset] [])) rfl (hb hby d3_42) _ ?_
  refine XS.iload X0.here hx rfl (hb hby d3_45) rfl ?_
  refine XS.iconst X0.here hx rfl (hb hby d3_47) ?_
  refine XS.iand X0.here hx rfl (hb hby d3_48) rfl ?_
  refine XS.i2l X0.here hx rfl (hb hby d3_49) rfl ?_
  refine XS.ladd X0.here hx rfl (hb hby d3_50) rfl ?_
  show Steps p.tables e below (T0.setTop (mkF m 51 #[.val (.ref pq), .val (.ref arr), .val (.long old), .second, .val (.long x), .second, .val (.long s'), .second, .val (.int ids), .val (.int fl), .val (.int (1 : Int32)), .val (.int (1 : Int32)), .val (.int (0 : Int32)), .unset, .unset, .unset, .unset, .unset, .unset, .unset, .unset, .unset, .unset, .unset, .unset, .unset, .unset, .unset, .unset] [(.long ((1000 : Int64) + ((ids &&& (3 : Int32)).toInt64)))])) _
  rw [hjj]
  refine XS.lstore X0.here hx rfl (hb hby d3_51) rfl (l' := #[.val (.ref pq), .val (.ref arr), .val (.long old), .second, .val (.long x), .second, .val (.long s'), .second, .val (.int ids), .val (.int fl), .val (.int (1 : Int32)), .val (.int (1 : Int32)), .val (.int (0 : Int32)), .val (.long jj), .second, .unset, .unset, .unset, .unset, .unset, .unset, .unset, .unset, .unset, .unset, .unset, .unset, .unset, .unset]) rfl ?_
  show Steps p.tables e below (T0.setTop (mkF m 53 #[.val (.ref pq), .val (.ref arr), .val (.long old), .second, .val (.long x), .second, .val (.long s'), .second, .val (.int ids), .val (.int fl), .val (.int (1 : Int32)), .val (.int (1 : Int32)), .val (.int (0 : Int32)), .val (.long jj), .second, .unset, .unset, .unset, .unset, .unset, .unset, .unset, .unset, .unset, .unset, .unset, .unset, .unset, .unset] [])) _
  refine X0.ldc2Long hx hown (mvT hZ (ow hw 22 rfl)) (g := (mkF m 53 #[.val (.ref pq), .val (.ref arr), .val (.long old), .second, .val (.long x), .second, .val (.long s'), .second, .val (.int ids), .val (.int fl), .val (.int (1 : Int32)), .val (.int (1 : Int32)), .val (.int (0 : Int32)), .val (.long jj), .second, .unset, .unset, .unset, .unset, .unset, .unset, .unset, .unset, .unset, .unset, .unset, .unset, .unset, .unset] [])) rfl (hb hby d3_53) _ ?_
  refine XS.iload X0.here hx rfl (hb hby d3_56) rfl ?_
  refine XS.iconst X0.here hx rfl (hb hby d3_58) ?_
  refine XS.ishr X0.here hx rfl (hb hby d3_59) rfl ?_
  refine XS.iconst X0.here hx rfl (hb hby d3_60) ?_
  refine XS.iand X0.here hx rfl (hb hby d3_61) rfl ?_
  refine XS.i2l X0.here hx rfl (hb hby d3_62) rfl ?_
  refine XS.ladd X0.here hx rfl (hb hby d3_63) rfl ?_
  show Steps p.tables e below (T0.setTop (mkF m 64 #[.val (.ref pq), .val (.ref arr), .val (.long old), .second, .val (.long x), .second, .val (.long s'), .second, .val (.int ids), .val (.int fl), .val (.int (1 : Int32)), .val (.int (1 : Int32)), .val (.int (0 : Int32)), .val (.long jj), .second, .unset, .unset, .unset, .unset, .unset, .unset, .unset, .unset, .unset, .unset, .unset, .unset, .unset, .unset] [(.long ((1000 : Int64) + (((ids >>> ((2 : Int32) &&& 31)) &&& (3 : Int32)).toInt64)))])) _
  rw [htt]
  refine XS.lstore X0.here hx rfl (hb hby d3_64) rfl (l' := #[.val (.ref pq), .val (.ref arr), .val (.long old), .second, .val (.long x), .second, .val (.long s'), .second, .val (.int ids), .val (.int fl), .val (.int (1 : Int32)), .val (.int (1 : Int32)), .val (.int (0 : Int32)), .val (.long jj), .second, .val (.long tt), .second, .unset, .unset, .unset, .unset, .unset, .unset, .unset, .unset, .unset, .unset, .unset, .unset]) rfl ?_
  show Steps p.tables e below (T0.setTop (mkF m 66 #[.val (.ref pq), .val (.ref arr), .val (.long old), .second, .val (.long x), .second, .val (.long s'), .second, .val (.int ids), .val (.int fl), .val (.int (1 : Int32)), .val (.int (1 : Int32)), .val (.int (0 : Int32)), .val (.long jj), .second, .val (.long tt), .second, .unset, .unset, .unset, .unset, .unset, .unset, .unset, .unset, .unset, .unset, .unset, .unset] [])) _
  refine XS.iload X0.here hx rfl (hb hby d3_66) rfl ?_
  refine XS.ifNo X0.here hx rfl (hb hby d3_68) rfl ((if0 _ _).trans (feq ((by decide) : ¬ ((1 : Int32) = (0 : Int32)))).1) ?_
  refine XS.aconstNull X0.here hx rfl (hb hby d3_71) ?_
  refine XS.goto X0.here hx rfl (pc0 := 72) (pc' := 80) rfl (hb hby d3_72) (by decide) (by decide) ?_
  refine XS.astore X0.here hx rfl (hb hby d3_80) rfl rfl (l' := #[.val (.ref pq), .val (.ref arr), .val (.long old), .second, .val (.long x), .second, .val (.long s'), .second, .val (.int ids), .val (.int fl), .val (.int (1 : Int32)), .val (.int (1 : Int32)), .val (.int (0 : Int32)), .val (.long jj), .second, .val (.long tt), .second, .val .null, .unset, .unset, .unset, .unset, .unset, .unset, .unset, .unset, .unset, .unset, .unset]) rfl ?_
  refine XS.iload X0.here hx rfl (hb hby d3_82) rfl ?_
  refine XS.ifNo X0.here hx rfl (hb hby d3_84) rfl ((if0 _ _).trans (feq ((by decide) : ¬ ((1 : Int32) = (0 : Int32)))).1) ?_
  refine XS.aconstNull X0.here hx rfl (hb hby d3_87) ?_
  refine XS.goto X0.here hx rfl (pc0 := 88) (pc' := 96) rfl (hb hby d3_88) (by decide) (by decide) ?_
  show Steps p.tables e below (T0.setTop (mkF m 96 #[.val (.ref pq), .val (.ref arr), .val (.long old), .second, .val (.long x), .second, .val (.long s'), .second, .val (.int ids), .val (.int fl), .val (.int (1 : Int32)), .val (.int (1 : Int32)), .val (.int (0 : Int32)), .val (.long jj), .second, .val (.long tt), .second, .val .null, .unset, .unset, .unset, .unset, .unset, .unset, .unset, .unset, .unset, .unset, .unset] [.null])) _
  refine XS.astore X0.here hx rfl (hb hby d3_96) rfl rfl (l' := #[.val (.ref pq), .val (.ref arr), .val (.long old), .second, .val (.long x), .second, .val (.long s'), .second, .val (.int ids), .val (.int fl), .val (.int (1 : Int32)), .val (.int (1 : Int32)), .val (.int (0 : Int32)), .val (.long jj), .second, .val (.long tt), .second, .val .null, .val .null, .unset, .unset, .unset, .unset, .unset, .unset, .unset, .unset, .unset, .unset]) rfl ?_
  refine XS.iload X0.here hx rfl (hb hby d3_98) rfl ?_
  refine XS.ifNo X0.here hx rfl (hb hby d3_100) rfl ((if0 _ _).trans (feq ((by decide) : ¬ ((1 : Int32) = (0 : Int32)))).1) ?_
  refine XS.aconstNull X0.here hx rfl (hb hby d3_103) ?_
  refine XS.goto X0.here hx rfl (pc0 := 104) (pc' := 112) rfl (hb hby d3_104) (by decide) (by decide) ?_
  refine XS.astore X0.here hx rfl (hb hby d3_112) rfl rfl (l' := #[.val (.ref pq), .val (.ref arr), .val (.long old), .second, .val (.long x), .second, .val (.long s'), .second, .val (.int ids), .val (.int fl), .val (.int (1 : Int32)), .val (.int (1 : Int32)), .val (.int (0 : Int32)), .val (.long jj), .second, .val (.long tt), .second, .val .null, .val .null, .val .null, .unset, .unset, .unset, .unset, .unset, .unset, .unset, .unset, .unset]) rfl ?_
  refine XS.iload X0.here hx rfl (hb hby d3_114) rfl ?_
  refine XS.ifYes X0.here hx rfl (pc0 := 116) (pc' := 123) rfl (hb hby d3_116) rfl ((if0 _ _).trans (teq (rfl : (0 : Int32) = (0 : Int32))).1) (by decide) (by decide) ?_
  refine XS.lload X0.here hx rfl (hb hby d3_123) rfl ?_
  show Steps p.tables e below (T0.setTop (mkF m 125 #[.val (.ref pq), .val (.ref arr), .val (.long old), .second, .val (.long x), .second, .val (.long s'), .second, .val (.int ids), .val (.int fl), .val (.int (1 : Int32)), .val (.int (1 : Int32)), .val (.int (0 : Int32)), .val (.long jj), .second, .val (.long tt), .second, .val .null, .val .null, .val .null, .unset, .unset, .unset, .unset, .unset, .unset, .unset, .unset, .unset] [(.long tt)])) _
  refine st2 _ ?_
  refine XS.astore X2.here hx rfl (hb hby d3_128) rfl rfl (l' := #[.val (.ref pq), .val (.ref arr), .val (.long old), .second, .val (.long x), .second, .val (.long s'), .second, .val (.int ids), .val (.int fl), .val (.int (1 : Int32)), .val (.int (1 : Int32)), .val (.int (0 : Int32)), .val (.long jj), .second, .val (.long tt), .second, .val .null, .val .null, .val .null, .val (.ref av2), .unset, .unset, .unset, .unset, .unset, .unset, .unset, .unset]) rfl ?_
  refine XS.aloadN X2.here hx rfl (hb hby d3_130) rfl rfl ?_
  refine XS.lloadN X2.here hx rfl (hb hby d3_131) rfl ?_
  refine XS.aload X2.here hx rfl (hb hby d3_132) rfl rfl ?_
  refine XS.aload X2.here hx rfl (hb hby d3_134) rfl rfl ?_
  refine XS.aload X2.here hx rfl (hb hby d3_136) rfl rfl ?_
  refine XS.aload X2.here hx rfl (hb hby d3_138) rfl rfl ?_
  refine st8.trans ?_
  exact kt
set_option maxRecDepth 65536 in
set_option maxHeartbeats 40000000 in
theorem s1_111 {p : Program} {l : Launch} {e : Env} {s : State} {m : MethodId} {args : Array Value} {below : List Frame} {meth : Method} {c : Code} {T0 : State} {Z : State} {a0 : Array Value} {h0 : Heap} {n0 : Nat} (pq : Addr) (arr : Addr) (k : ClassId) (cb : Addr) (old : Int64) (x : Int64) (s' : Int64) (ids : Int32) (fl : Int32) (fx : Int64) (fs : Int64) (jr : Value) (sn : Value) (oj : Option Int64) (v2 : Int64) (v3 : Int64) (jj : Int64) (tt : Int64)
    (X0 : Stand p l e rr_4_4_4_53 s m args below meth c T0 [] 0 0) (hx : p.tables.exec = Jvm.exec) (hZ : Z.Warmed39 s.vm) (hw : ∀ d ∈ tables_1, d.before a0 Z = true) (hby : c.code = method_4_code) (hml : c.maxLocals = 29) (hown : s.vm.findClass "com/example/keyed_work_queue/keyedworkqueue/PendingFoundPinLaw" = some m.cls) (e0 : T0.heap = h0) (Z0 : n0 ≤ h0.size) (N0 : Fr n0 []) (hjj : ((1000 : Int64) + ((ids &&& (3 : Int32)).toInt64)) = jj) (htt : ((1000 : Int64) + (((ids >>> ((2 : Int32) &&& 31)) &&& (3 : Int32)).toInt64)) = tt) (g0_pq : n0 ≤ pq) (g0_arr : n0 ≤ arr) (PA : PdAt Z h0 pq fx fs jr sn) (O0 : Old Z n0 h0) (SC : Sta Z Z.heap "java/lang/Long$LongCache" "cache" "[Ljava/lang/Long;" (.ref cb)) (LC : LCache Z cb) (LJ : LR Z h0 jr oj) (VA : Arv Z h0 arr k .long (4 : Int32) [(.long fx), (.long fs), (.long v2), (.long v3)] (.long (0 : Int64))) (hc4 : ¬ ((fl &&& (1 : Int32)) = (0 : Int32))) (hc18 : ¬ ((fl &&& (2 : Int32)) = (0 : Int32))) (hc32 : ¬ ((fl &&& (4 : Int32)) = (0 : Int32))) :
    ∃ (T' : State) (h' : Heap) (L' : List Loc) (jr' r1 r2 r3 r4 : Value), Stand p l e rr_4_4_4_53 s m args below meth c T' L' 0 0 ∧ T'.heap = h' ∧ Fr n0 L' ∧ (PdAt Z h' pq (own_fl oj (own_or none none) (fx, fs) (own_cand old none)).1 (own_fl oj (own_or none none) (fx, fs) (own_cand old none)).2 jr' (.int (0 : Int32)) ∧ LR Z h' jr' (own_jo oj none none) ∧ Arv Z h' arr k .long (4 : Int32) [(.long fx), (.long fs), (.long v2), (.long v3)] (.long (0 : Int64)) ∧ Old Z n0 h' ∧ Keep h0 h' [pq]) ∧
      ∀ target, Steps p.tables e below (T'.setTop (mkF m 143 #[.val (.ref pq), .val (.ref arr), .val (.long old), .second, .val (.long x), .second, .val (.long s'), .second, .val (.int ids), .val (.int fl), .val (.int (1 : Int32)), .val (.int (1 : Int32)), .val (.int (1 : Int32)), .val (.long jj), .second, .val (.long tt), .second, .val r1, .val r2, .val r3, .val r4, .unset, .unset, .unset, .unset, .unset, .unset, .unset, .unset] [])) target → Steps p.tables e below (T0.setTop (mkF m 0 #[.val (.ref pq), .val (.ref arr), .val (.long old), .second, .val (.long x), .second, .val (.long s'), .second, .val (.int ids), .val (.int fl), .unset, .unset, .unset, .unset, .unset, .unset, .unset, .unset, .unset, .unset, .unset, .unset, .unset, .unset, .unset, .unset, .unset, .unset, .unset] [])) target := by
  obtain ⟨Epd1, Fapd1, Fbpd1, Fcpd1, Fdpd1⟩ := PA
  have ne_pq_arr : pq ≠ arr := own_pe Epd1 VA (ow hw 1 rfl)
  have L3 : LR Z h0 .null none := (Or.inl ⟨rfl, rfl⟩)
  have L4 : LR Z h0 .null none := (Or.inl ⟨rfl, rfl⟩)
  obtain ⟨cq2, kq2, q2a, q2b, q2c⟩ := isOf hZ e0 Epd1
  obtain ⟨_, _, ⟨T2, L2, k2, n2⟩, -, X2, ⟨Lc2, hQ2, l2, y2, z2⟩, st2⟩ := X0.virtualBack hx (y := nm_7) (z := nm_7) hown (mvT hZ (ow hw 46 rfl)) (mvT hZ (ow hw 47 rfl)) (notFace_of_selects (args := #[]) (mvT hZ (ow hw 49 rfl))) (mvT hZ (ow hw 49 rfl)) (mvT hZ (ow hw 48 rfl)) (by decide) (backOf (W := 0) (rm7 l Z a0 hw [] old pq fx fs jr sn .null .null .null .null none none none oj h0 n0 Z0 g0_pq ⟨Epd1, Fapd1, Fbpd1, Fcpd1, Fdpd1⟩ (Or.inl ⟨rfl, rfl, rfl⟩) L3 L4 LJ) hZ (ow hw 50 rfl) (ow hw 2 rfl) (by decide) (by decide)) q2a q2c (g := (mkF m 140 #[.val (.ref pq), .val (.ref arr), .val (.long old), .second, .val (.long x), .second, .val (.long s'), .second, .val (.int ids), .val (.int fl), .val (.int (1 : Int32)), .val (.int (1 : Int32)), .val (.int (1 : Int32)), .val (.long jj), .second, .val (.long tt), .second, .val .null, .val .null, .val .null, .val .null, .unset, .unset, .unset, .unset, .unset, .unset, .unset, .unset] [.null, .null, .null, .null, (.long old), (.ref pq)])) rfl (by rw [hml]; rfl) (Steps.refl _) (argsL := [(.long old), .null, .null, .null, .null]) (rest := []) (lenOf pd_4 rfl) rfl (by show 2 * 0 + _ ≤ _; exact Nat.le_of_eq rfl) (hb hby d3_140) (fun _ _ => ⟨rfl, e0, (by decide : 0 + 0 ≤ _), (by decide : 0 + 0 ≤ _)⟩)
  dsimp only [Pt.U, Pt.locs, Pt.cells, Pt.slots] at X2 l2 y2 z2 st2 hQ2
  subst l2 y2 z2
  obtain ⟨rfl, N2q, K2, PB2⟩ := hQ2
  have N2 := Fr.app N0 N2q
  have LN : LR Z T2.heap (own_jr oj none none .null .null) (own_jo oj none none) := (LR_new L3 L4).keepP K2 Epd1 (by decide)
  have kp3 : Keep h0 T2.heap [pq] := ((Keep.refl h0 [pq]).trans K2 (allS (Or.inl (List.mem_of_getElem? (i := 0) rfl)) all0))
  have c4 := VA.keep K2 (ninS (Ne.symm ne_pq_arr) nin0)
  have c5 := O0.keep K2 (allS g0_pq all0)
  refine ⟨T2, _, _, _, .null, .null, .null, .null, X2, rfl, N2, ⟨PB2, LN, c4, c5, kp3⟩, fun target kt => ?_⟩
  show Steps p.tables e below (T0.setTop (mkF m 0 #[.val (.ref pq), .val (.ref arr), .val (.long old), .second, .val (.long x), .second, .val (.long s'), .second, .val (.int ids), .val (.int fl), .unset, .unset, .unset, .unset, .unset, .unset, .unset, .unset, .unset, .unset, .unset, .unset, .unset, .unset, .unset, .unset, .unset, .unset, .unset] [])) _
  refine XS.iload X0.here hx rfl (hb hby d3_0) rfl ?_
  refine XS.iconst X0.here hx rfl (hb hby d3_2) ?_
  refine XS.iand X0.here hx rfl (hb hby d3_3) rfl ?_
  refine XS.ifNo X0.here hx rfl (hb hby d3_4) rfl ((if0 _ _).trans (feq hc4).1) ?_
  refine XS.iconst X0.here hx rfl (hb hby d3_7) ?_
  refine XS.goto X0.here hx rfl (pc0 := 8) (pc' := 12) rfl (hb hby d3_8) (by decide) (by decide) ?_
  refine XS.istore X0.here hx rfl (hb hby d3_12) rfl (l' := #[.val (.ref pq), .val (.ref arr), .val (.long old), .second, .val (.long x), .second, .val (.long s'), .second, .val (.int ids), .val (.int fl), .val (.int (1 : Int32)), .unset, .unset, .unset, .unset, .unset, .unset, .unset, .unset, .unset, .unset, .unset, .unset, .unset, .unset, .unset, .unset, .unset, .unset]) rfl ?_
  refine XS.iload X0.here hx rfl (hb hby d3_14) rfl ?_
  refine XS.iconst X0.here hx rfl (hb hby d3_16) ?_
  show Steps p.tables e below (T0.setTop (mkF m 17 #[.val (.ref pq), .val (.ref arr), .val (.long old), .second, .val (.long x), .second, .val (.long s'), .second, .val (.int ids), .val (.int fl), .val (.int (1 : Int32)), .unset, .unset, .unset, .unset, .unset, .unset, .unset, .unset, .unset, .unset, .unset, .unset, .unset, .unset, .unset, .unset, .unset, .unset] [(.int (2 : Int32)), (.int fl)])) _
  refine XS.iand X0.here hx rfl (hb hby d3_17) rfl ?_
  refine XS.ifNo X0.here hx rfl (hb hby d3_18) rfl ((if0 _ _).trans (feq hc18).1) ?_
  refine XS.iconst X0.here hx rfl (hb hby d3_21) ?_
  refine XS.goto X0.here hx rfl (pc0 := 22) (pc' := 26) rfl (hb hby d3_22) (by decide) (by decide) ?_
  refine XS.istore X0.here hx rfl (hb hby d3_26) rfl (l' := #[.val (.ref pq), .val (.ref arr), .val (.long old), .second, .val (.long x), .second, .val (.long s'), .second, .val (.int ids), .val (.int fl), .val (.int (1 : Int32)), .val (.int (1 : Int32)), .unset, .unset, .unset, .unset, .unset, .unset, .unset, .unset, .unset, .unset, .unset, .unset, .unset, .unset, .unset, .unset, .unset]) rfl ?_
  refine XS.iload X0.here hx rfl (hb hby d3_28) rfl ?_
  refine XS.iconst X0.here hx rfl (hb hby d3_30) ?_
  refine XS.iand X0.here hx rfl (hb hby d3_31) rfl ?_
  refine XS.ifNo X0.here hx rfl (hb hby d3_32) rfl ((if0 _ _).trans (feq hc32).1) ?_
  show Steps p.tables e below (T0.setTop (mkF m 35 #[.val (.ref pq), .val (.ref arr), .val (.long old), .second, .val (.long x), .second, .val (.long s'), .second, .val (.int ids), .val (.int fl), .val (.int (1 : Int32)), .val (.int (1 : Int32)), .unset, .unset, .unset, .unset, .unset, .unset, .unset, .unset, .unset, .unset, .unset, .unset, .unset, .unset, .unset, .unset, .unset] [])) _
  refine XS.iconst X0.here hx rfl (hb hby d3_35) ?_
  refine XS.goto X0.here hx rfl (pc0 := 36) (pc' := 40) rfl (hb hby d3_36) (by decide) (by decide) ?_
  refine XS.istore X0.here hx rfl (hb hby d3_40) rfl (l' := #[.val (.ref pq), .val (.ref arr), .val (.long old), .second, .val (.long x), .second, .val (.long s'), .second, .val (.int ids), .val (.int fl), .val (.int (1 : Int32)), .val (.int (1 : Int32)), .val (.int (1 : Int32)), .unset, .unset, .unset, .unset, .unset, .unset, .unset, .unset, .unset, .unset, .unset, .unset, .unset, .unset, .unset, .unset]) rfl ?_
  refine X0.ldc2Long hx hown (mvT hZ (ow hw 22 rfl)) (g := (mkF m 42 #[.val (.ref pq), .val (.ref arr), .val (.long old), .second, .val (.long x), .second, .val (.long s'), .second, .val (.int ids), .val (.int fl), .val (.int (1 : Int32)), .val (.int (1 : Int32)), .val (.int (1 : Int32)), .unset, .unset, .unset, .unset, .unset, .unset, .unset, .unset, .unset, .unset, .unset, .unset, .unset, .unset, .unset, .unset] [])) rfl (hb hby d3_42) _ ?_
  refine XS.iload X0.here hx rfl (hb hby d3_45) rfl ?_
  refine XS.iconst X0.here hx rfl (hb hby d3_47) ?_
  refine XS.iand X0.here hx rfl (hb hby d3_48) rfl ?_
  refine XS.i2l X0.here hx rfl (hb hby d3_49) rfl ?_
  refine XS.ladd X0.here hx rfl (hb hby d3_50) rfl ?_
  show Steps p.tables e below (T0.setTop (mkF m 51 #[.val (.ref pq), .val (.ref arr), .val (.long old), .second, .val (.long x), .second, .val (.long s'), .second, .val (.int ids), .val (.int fl), .val (.int (1 : Int32)), .val (.int (1 : Int32)), .val (.int (1 : Int32)), .unset, .unset, .unset, .unset, .unset, .unset, .unset, .unset, .unset, .unset, .unset, .unset, .unset, .unset, .unset, .unset] [(.long ((1000 : Int64) + ((ids &&& (3 : Int32)).toInt64)))])) _
  rw [hjj]
  refine XS.lstore X0.here hx rfl (hb hby d3_51) rfl (l' := #[.val (.ref pq), .val (.ref arr), .val (.long old), .second, .val (.long x), .second, .val (.long s'), .second, .val (.int ids), .val (.int fl), .val (.int (1 : Int32)), .val (.int (1 : Int32)), .val (.int (1 : Int32)), .val (.long jj), .second, .unset, .unset, .unset, .unset, .unset, .unset, .unset, .unset, .unset, .unset, .unset, .unset, .unset, .unset]) rfl ?_
  refine X0.ldc2Long hx hown (mvT hZ (ow hw 22 rfl)) (g := (mkF m 53 #[.val (.ref pq), .val (.ref arr), .val (.long old), .second, .val (.long x), .second, .val (.long s'), .second, .val (.int ids), .val (.int fl), .val (.int (1 : Int32)), .val (.int (1 : Int32)), .val (.int (1 : Int32)), .val (.long jj), .second, .unset, .unset, .unset, .unset, .unset, .unset, .unset, .unset, .unset, .unset, .unset, .unset, .unset, .unset] [])) rfl (hb hby d3_53) _ ?_
  refine XS.iload X0.here hx rfl (hb hby d3_56) rfl ?_
  refine XS.iconst X0.here hx rfl (hb hby d3_58) ?_
  refine XS.ishr X0.here hx rfl (hb hby d3_59) rfl ?_
  refine XS.iconst X0.here hx rfl (hb hby d3_60) ?_
  refine XS.iand X0.here hx rfl (hb hby d3_61) rfl ?_
  refine XS.i2l X0.here hx rfl (hb hby d3_62) rfl ?_
  refine XS.ladd X0.here hx rfl (hb hby d3_63) rfl ?_
  show Steps p.tables e below (T0.setTop (mkF m 64 #[.val (.ref pq), .val (.ref arr), .val (.long old), .second, .val (.long x), .second, .val (.long s'), .second, .val (.int ids), .val (.int fl), .val (.int (1 : Int32)), .val (.int (1 : Int32)), .val (.int (1 : Int32)), .val (.long jj), .second, .unset, .unset, .unset, .unset, .unset, .unset, .unset, .unset, .unset, .unset, .unset, .unset, .unset, .unset] [(.long ((1000 : Int64) + (((ids >>> ((2 : Int32) &&& 31)) &&& (3 : Int32)).toInt64)))])) _
  rw [htt]
  refine XS.lstore X0.here hx rfl (hb hby d3_64) rfl (l' := #[.val (.ref pq), .val (.ref arr), .val (.long old), .second, .val (.long x), .second, .val (.long s'), .second, .val (.int ids), .val (.int fl), .val (.int (1 : Int32)), .val (.int (1 : Int32)), .val (.int (1 : Int32)), .val (.long jj), .second, .val (.long tt), .second, .unset, .unset, .unset, .unset, .unset, .unset, .unset, .unset, .unset, .unset, .unset, .unset]) rfl ?_
  refine XS.iload X0.here hx rfl (hb hby d3_66) rfl ?_
  refine XS.ifNo X0.here hx rfl (hb hby d3_68) rfl ((if0 _ _).trans (feq ((by decide) : ¬ ((1 : Int32) = (0 : Int32)))).1) ?_
  refine XS.aconstNull X0.here hx rfl (hb hby d3_71) ?_
  refine XS.goto X0.here hx rfl (pc0 := 72) (pc' := 80) rfl (hb hby d3_72) (by decide) (by decide) ?_
  refine XS.astore X0.here hx rfl (hb hby d3_80) rfl rfl (l' := #[.val (.ref pq), .val (.ref arr), .val (.long old), .second, .val (.long x), .second, .val (.long s'), .second, .val (.int ids), .val (.int fl), .val (.int (1 : Int32)), .val (.int (1 : Int32)), .val (.int (1 : Int32)), .val (.long jj), .second, .val (.long tt), .second, .val .null, .unset, .unset, .unset, .unset, .unset, .unset, .unset, .unset, .unset, .unset, .unset]) rfl ?_
  refine XS.iload X0.here hx rfl (hb hby d3_82) rfl ?_
  refine XS.ifNo X0.here hx rfl (hb hby d3_84) rfl ((if0 _ _).trans (feq ((by decide) : ¬ ((1 : Int32) = (0 : Int32)))).1) ?_
  refine XS.aconstNull X0.here hx rfl (hb hby d3_87) ?_
  show Steps p.tables e below (T0.setTop (mkF m 88 #[.val (.ref pq), .val (.ref arr), .val (.long old), .second, .val (.long x), .second, .val (.long s'), .second, .val (.int ids), .val (.int fl), .val (.int (1 : Int32)), .val (.int (1 : Int32)), .val (.int (1 : Int32)), .val (.long jj), .second, .val (.long tt), .second, .val .null, .unset, .unset, .unset, .unset, .unset, .unset, .unset, .unset, .unset, .unset, .unset] [.null])) _
  refine XS.goto X0.here hx rfl (pc0 := 88) (pc' := 96) rfl (hb hby d3_88) (by decide) (by decide) ?_
  refine XS.astore X0.here hx rfl (hb hby d3_96) rfl rfl (l' := #[.val (.ref pq), .val (.ref arr), .val (.long old), .second, .val (.long x), .second, .val (.long s'), .second, .val (.int ids), .val (.int fl), .val (.int (1 : Int32)), .val (.int (1 : Int32)), .val (.int (1 : Int32)), .val (.long jj), .second, .val (.long tt), .second, .val .null, .val .null, .unset, .unset, .unset, .unset, .unset, .unset, .unset, .unset, .unset, .unset]) rfl ?_
  refine XS.iload X0.here hx rfl (hb hby d3_98) rfl ?_
  refine XS.ifNo X0.here hx rfl (hb hby d3_100) rfl ((if0 _ _).trans (feq ((by decide) : ¬ ((1 : Int32) = (0 : Int32)))).1) ?_
  refine XS.aconstNull X0.here hx rfl (hb hby d3_103) ?_
  refine XS.goto X0.here hx rfl (pc0 := 104) (pc' := 112) rfl (hb hby d3_104) (by decide) (by decide) ?_
  refine XS.astore X0.here hx rfl (hb hby d3_112) rfl rfl (l' := #[.val (.ref pq), .val (.ref arr), .val (.long old), .second, .val (.long x), .second, .val (.long s'), .second, .val (.int ids), .val (.int fl), .val (.int (1 : Int32)), .val (.int (1 : Int32)), .val (.int (1 : Int32)), .val (.long jj), .second, .val (.long tt), .second, .val .null, .val .null, .val .null, .unset, .unset, .unset, .unset, .unset, .unset, .unset, .unset, .unset]) rfl ?_
  refine XS.iload X0.here hx rfl (hb hby d3_114) rfl ?_
  refine XS.ifNo X0.here hx rfl (hb hby d3_116) rfl ((if0 _ _).trans (feq ((by decide) : ¬ ((1 : Int32) = (0 : Int32)))).1) ?_
  show Steps p.tables e below (T0.setTop (mkF m 119 #[.val (.ref pq), .val (.ref arr), .val (.long old), .second, .val (.long x), .second, .val (.long s'), .second, .val (.int ids), .val (.int fl), .val (.int (1 : Int32)), .val (.int (1 : Int32)), .val (.int (1 : Int32)), .val (.long jj), .second, .val (.long tt), .second, .val .null, .val .null, .val .null, .unset, .unset, .unset, .unset, .unset, .unset, .unset, .unset, .unset] [])) _
  refine XS.aconstNull X0.here hx rfl (hb hby d3_119) ?_
  refine XS.goto X0.here hx rfl (pc0 := 120) (pc' := 128) rfl (hb hby d3_120) (by decide) (by decide) ?_
  refine XS.astore X0.here hx rfl (hb hby d3_128) rfl rfl (l' := #[.val (.ref pq), .val (.ref arr), .val (.long old), .second, .val (.long x), .second, .val (.long s'), .second, .val (.int ids), .val (.int fl), .val (.int (1 : Int32)), .val (.int (1 : Int32)), .val (.int (1 : Int32)), .val (.long jj), .second, .val (.long tt), .second, .val .null, .val .null, .val .null, .val .null, .unset, .unset, .unset, .unset, .unset, .unset, .unset, .unset]) rfl ?_
  refine XS.aloadN X0.here hx rfl (hb hby d3_130) rfl rfl ?_
  refine XS.lloadN X0.here hx rfl (hb hby d3_131) rfl ?_
  refine XS.aload X0.here hx rfl (hb hby d3_132) rfl rfl ?_
  refine XS.aload X0.here hx rfl (hb hby d3_134) rfl rfl ?_
  refine XS.aload X0.here hx rfl (hb hby d3_136) rfl rfl ?_
  refine XS.aload X0.here hx rfl (hb hby d3_138) rfl rfl ?_
  show Steps p.tables e below (T0.setTop (mkF m 140 #[.val (.ref pq), .val (.ref arr), .val (.long old), .second, .val (.long x), .second, .val (.long s'), .second, .val (.int ids), .val (.int fl), .val (.int (1 : Int32)), .val (.int (1 : Int32)), .val (.int (1 : Int32)), .val (.long jj), .second, .val (.long tt), .second, .val .null, .val .null, .val .null, .val .null, .unset, .unset, .unset, .unset, .unset, .unset, .unset, .unset] [.null, .null, .null, .null, (.long old), (.ref pq)])) _
  refine st2.trans ?_
  exact kt
def own_sm (pres : Prop) [Decidable pres] (v2 v3 inn : Int64) : Int32 := if ¬ (v2 = 0) ∧ pres ∧ v3 = inn then 1 else 0
theorem d3_143 : decode method_4_code 143 = .ok (.iload 11, 2) := by decide +kernel
theorem d3_145 : decode method_4_code 145 = .ok (.ifCond .eq 8, 3) := by decide +kernel
theorem d3_153 : decode method_4_code 153 = .ok (.iconst 1, 1) := by decide +kernel
theorem d3_154 : decode method_4_code 154 = .ok (.goto 4, 3) := by decide +kernel
theorem d3_158 : decode method_4_code 158 = .ok (.istore 21, 2) := by decide +kernel
theorem d3_160 : decode method_4_code 160 = .ok (.iload 11, 2) := by decide +kernel
theorem d3_162 : decode method_4_code 162 = .ok (.ifCond .ne 8, 3) := by decide +kernel
theorem d3_165 : decode method_4_code 165 = .ok (.lload 13, 2) := by decide +kernel
theorem d3_167 : decode method_4_code 167 = .ok (.goto 5, 3) := by decide +kernel
theorem d3_172 : decode method_4_code 172 = .ok (.lstore 22, 2) := by decide +kernel
theorem d3_174 : decode method_4_code 174 = .ok (.aload_n 1, 1) := by decide +kernel
theorem d3_175 : decode method_4_code 175 = .ok (.iconst 2, 1) := by decide +kernel
theorem d3_176 : decode method_4_code 176 = .ok (.laload, 1) := by decide +kernel
theorem d3_177 : decode method_4_code 177 = .ok (.lconst 0, 1) := by decide +kernel
theorem d3_178 : decode method_4_code 178 = .ok (.lcmp, 1) := by decide +kernel
theorem d3_179 : decode method_4_code 179 = .ok (.ifCond .eq 21, 3) := by decide +kernel
theorem d3_200 : decode method_4_code 200 = .ok (.iconst 0, 1) := by decide +kernel
theorem d3_201 : decode method_4_code 201 = .ok (.istore 24, 2) := by decide +kernel
set_option maxRecDepth 65536 in
set_option maxHeartbeats 40000000 in
theorem s2_00_z {p : Program} {l : Launch} {e : Env} {s : State} {m : MethodId} {args : Array Value} {below : List Frame} {meth : Method} {c : Code} {T0 : State} {locs : List Loc} {cells slots : Nat} {Z : State} {a0 : Array Value} {h0 : Heap} (pq : Addr) (arr : Addr) (k : ClassId) (old : Int64) (x : Int64) (s' : Int64) (ids : Int32) (fl : Int32) (b10 : Int32) (jj : Int64) (tt : Int64) (r1 : Value) (r2 : Value) (r3 : Value) (r4 : Value) (v0 : Int64) (v1 : Int64) (v2 : Int64) (v3 : Int64)
    (X0 : Stand p l e rr_4_4_4_53 s m args below meth c T0 locs cells slots) (hx : p.tables.exec = Jvm.exec) (hZ : Z.Warmed39 s.vm) (hw : ∀ d ∈ tables_1, d.before a0 Z = true) (hby : c.code = method_4_code) (hml : c.maxLocals = 29) (hown : s.vm.findClass "com/example/keyed_work_queue/keyedworkqueue/PendingFoundPinLaw" = some m.cls) (e0 : T0.heap = h0) (hcl : cells ≤ rr_4_4_4_53.cells) (hsl : slots ≤ rr_4_4_4_53.slots) (VA : Arv Z h0 arr k .long (4 : Int32) [(.long v0), (.long v1), (.long v2), (.long v3)] (.long (0 : Int64))) (hc179 : v2 = (0 : Int64)) :
    ∀ target, Steps p.tables e below (T0.setTop (mkF m 203 #[.val (.ref pq), .val (.ref arr), .val (.long old), .second, .val (.long x), .second, .val (.long s'), .second, .val (.int ids), .val (.int fl), .val (.int b10), .val (.int (0 : Int32)), .val (.int (0 : Int32)), .val (.long jj), .second, .val (.long tt), .second, .val r1, .val r2, .val r3, .val r4, .val (.int (1 : Int32)), .val (.long jj), .second, .val (.int (0 : Int32)), .unset, .unset, .unset, .unset] [])) target → Steps p.tables e below (T0.setTop (mkF m 143 #[.val (.ref pq), .val (.ref arr), .val (.long old), .second, .val (.long x), .second, .val (.long s'), .second, .val (.int ids), .val (.int fl), .val (.int b10), .val (.int (0 : Int32)), .val (.int (0 : Int32)), .val (.long jj), .second, .val (.long tt), .second, .val r1, .val r2, .val r3, .val r4, .unset, .unset, .unset, .unset, .unset, .unset, .unset, .unset] [])) target := by
  intro target kt
  obtain ⟨clz1, Arz1, qz1, Sz1, Nz1, Hz1, Gz1⟩ := id VA
  have hin2 : ¬ ((2 : Int32) < 0 ∨ clz1.slots.size ≤ ((2 : Int32)).toNatClampNeg) := inb_of Sz1 ⟨by decide, by decide⟩
  have hat2 : clz1.slots[((2 : Int32)).toNatClampNeg]? = some (.long v2) := Hz1.at hin2 rfl
  show Steps p.tables e below (T0.setTop (mkF m 143 #[.val (.ref pq), .val (.ref arr), .val (.long old), .second, .val (.long x), .second, .val (.long s'), .second, .val (.int ids), .val (.int fl), .val (.int b10), .val (.int (0 : Int32)), .val (.int (0 : Int32)), .val (.long jj), .second, .val (.long tt), .second, .val r1, .val r2, .val r3, .val r4, .unset, .unset, .unset, .unset, .unset, .unset, .unset, .unset] [])) _
  refine XS.iload X0.here hx rfl (hb hby d3_143) rfl ?_
  refine XS.ifYes X0.here hx rfl (pc0 := 145) (pc' := 153) rfl (hb hby d3_145) rfl ((if0 _ _).trans (teq (rfl : (0 : Int32) = (0 : Int32))).1) (by decide) (by decide) ?_
  refine XS.iconst X0.here hx rfl (hb hby d3_153) ?_
  refine XS.goto X0.here hx rfl (pc0 := 154) (pc' := 158) rfl (hb hby d3_154) (by decide) (by decide) ?_
  refine XS.istore X0.here hx rfl (hb hby d3_158) rfl (l' := #[.val (.ref pq), .val (.ref arr), .val (.long old), .second, .val (.long x), .second, .val (.long s'), .second, .val (.int ids), .val (.int fl), .val (.int b10), .val (.int (0 : Int32)), .val (.int (0 : Int32)), .val (.long jj), .second, .val (.long tt), .second, .val r1, .val r2, .val r3, .val r4, .val (.int (1 : Int32)), .unset, .unset, .unset, .unset, .unset, .unset, .unset]) rfl ?_
  refine XS.iload X0.here hx rfl (hb hby d3_160) rfl ?_
  refine XS.ifNo X0.here hx rfl (hb hby d3_162) rfl ((if0 _ _).trans (teq (rfl : (0 : Int32) = (0 : Int32))).2) ?_
  refine XS.lload X0.here hx rfl (hb hby d3_165) rfl ?_
  refine XS.goto X0.here hx rfl (pc0 := 167) (pc' := 172) rfl (hb hby d3_167) (by decide) (by decide) ?_
  show Steps p.tables e below (T0.setTop (mkF m 172 #[.val (.ref pq), .val (.ref arr), .val (.long old), .second, .val (.long x), .second, .val (.long s'), .second, .val (.int ids), .val (.int fl), .val (.int b10), .val (.int (0 : Int32)), .val (.int (0 : Int32)), .val (.long jj), .second, .val (.long tt), .second, .val r1, .val r2, .val r3, .val r4, .val (.int (1 : Int32)), .unset, .unset, .unset, .unset, .unset, .unset, .unset] [(.long jj)])) _
  refine XS.lstore X0.here hx rfl (hb hby d3_172) rfl (l' := #[.val (.ref pq), .val (.ref arr), .val (.long old), .second, .val (.long x), .second, .val (.long s'), .second, .val (.int ids), .val (.int fl), .val (.int b10), .val (.int (0 : Int32)), .val (.int (0 : Int32)), .val (.long jj), .second, .val (.long tt), .second, .val r1, .val r2, .val r3, .val r4, .val (.int (1 : Int32)), .val (.long jj), .second, .unset, .unset, .unset, .unset, .unset]) rfl ?_
  refine XS.aloadN X0.here hx rfl (hb hby d3_174) rfl rfl ?_
  refine XS.iconst X0.here hx rfl (hb hby d3_175) ?_
  refine X0.laload hx (j := (2 : Int32)) (v := (.long v2)) (by rw [e0]; exact Arz1.1) (State.isArrayOf_alike hZ.alike Arz1.2.1) Arz1.2.2 hin2 hat2 (g := (mkF m 176 #[.val (.ref pq), .val (.ref arr), .val (.long old), .second, .val (.long x), .second, .val (.long s'), .second, .val (.int ids), .val (.int fl), .val (.int b10), .val (.int (0 : Int32)), .val (.int (0 : Int32)), .val (.long jj), .second, .val (.long tt), .second, .val r1, .val r2, .val r3, .val r4, .val (.int (1 : Int32)), .val (.long jj), .second, .unset, .unset, .unset, .unset, .unset] [(.int (2 : Int32)), (.ref arr)])) rfl rfl (hb hby d3_176) _ ?_
  refine XS.lconst X0.here hx rfl (hb hby d3_177) ?_
  refine XS.lcmp X0.here hx rfl (hb hby d3_178) rfl ?_
  refine XS.ifYes X0.here hx rfl (pc0 := 179) (pc' := 200) rfl (hb hby d3_179) rfl ((if0 _ _).trans (teq ((lw_eq _ _).mpr hc179)).1) (by decide) (by decide) ?_
  refine XS.iconst X0.here hx rfl (hb hby d3_200) ?_
  refine XS.istore X0.here hx rfl (hb hby d3_201) rfl (l' := #[.val (.ref pq), .val (.ref arr), .val (.long old), .second, .val (.long x), .second, .val (.long s'), .second, .val (.int ids), .val (.int fl), .val (.int b10), .val (.int (0 : Int32)), .val (.int (0 : Int32)), .val (.long jj), .second, .val (.long tt), .second, .val r1, .val r2, .val r3, .val r4, .val (.int (1 : Int32)), .val (.long jj), .second, .val (.int (0 : Int32)), .unset, .unset, .unset, .unset]) rfl ?_
  exact kt
theorem d3_182 : decode method_4_code 182 = .ok (.iload 21, 2) := by decide +kernel
theorem d3_184 : decode method_4_code 184 = .ok (.ifCond .eq 16, 3) := by decide +kernel
theorem d3_187 : decode method_4_code 187 = .ok (.aload_n 1, 1) := by decide +kernel
theorem d3_188 : decode method_4_code 188 = .ok (.iconst 3, 1) := by decide +kernel
theorem d3_189 : decode method_4_code 189 = .ok (.laload, 1) := by decide +kernel
theorem d3_190 : decode method_4_code 190 = .ok (.lload 22, 2) := by decide +kernel
theorem d3_192 : decode method_4_code 192 = .ok (.lcmp, 1) := by decide +kernel
theorem d3_193 : decode method_4_code 193 = .ok (.ifCond .ne 7, 3) := by decide +kernel
set_option maxRecDepth 65536 in
set_option maxHeartbeats 40000000 in
theorem s2_00_d {p : Program} {l : Launch} {e : Env} {s : State} {m : MethodId} {args : Array Value} {below : List Frame} {meth : Method} {c : Code} {T0 : State} {locs : List Loc} {cells slots : Nat} {Z : State} {a0 : Array Value} {h0 : Heap} (pq : Addr) (arr : Addr) (k : ClassId) (old : Int64) (x : Int64) (s' : Int64) (ids : Int32) (fl : Int32) (b10 : Int32) (jj : Int64) (tt : Int64) (r1 : Value) (r2 : Value) (r3 : Value) (r4 : Value) (v0 : Int64) (v1 : Int64) (v2 : Int64) (v3 : Int64)
    (X0 : Stand p l e rr_4_4_4_53 s m args below meth c T0 locs cells slots) (hx : p.tables.exec = Jvm.exec) (hZ : Z.Warmed39 s.vm) (hw : ∀ d ∈ tables_1, d.before a0 Z = true) (hby : c.code = method_4_code) (hml : c.maxLocals = 29) (hown : s.vm.findClass "com/example/keyed_work_queue/keyedworkqueue/PendingFoundPinLaw" = some m.cls) (e0 : T0.heap = h0) (hcl : cells ≤ rr_4_4_4_53.cells) (hsl : slots ≤ rr_4_4_4_53.slots) (VA : Arv Z h0 arr k .long (4 : Int32) [(.long v0), (.long v1), (.long v2), (.long v3)] (.long (0 : Int64))) (hc179 : ¬ (v2 = (0 : Int64))) (hc193 : ¬ (v3 = jj)) :
    ∀ target, Steps p.tables e below (T0.setTop (mkF m 203 #[.val (.ref pq), .val (.ref arr), .val (.long old), .second, .val (.long x), .second, .val (.long s'), .second, .val (.int ids), .val (.int fl), .val (.int b10), .val (.int (0 : Int32)), .val (.int (0 : Int32)), .val (.long jj), .second, .val (.long tt), .second, .val r1, .val r2, .val r3, .val r4, .val (.int (1 : Int32)), .val (.long jj), .second, .val (.int (0 : Int32)), .unset, .unset, .unset, .unset] [])) target → Steps p.tables e below (T0.setTop (mkF m 143 #[.val (.ref pq), .val (.ref arr), .val (.long old), .second, .val (.long x), .second, .val (.long s'), .second, .val (.int ids), .val (.int fl), .val (.int b10), .val (.int (0 : Int32)), .val (.int (0 : Int32)), .val (.long jj), .second, .val (.long tt), .second, .val r1, .val r2, .val r3, .val r4, .unset, .unset, .unset, .unset, .unset, .unset, .unset, .unset] [])) target := by
  intro target kt
  obtain ⟨clz1, Arz1, qz1, Sz1, Nz1, Hz1, Gz1⟩ := id VA
  have hin2 : ¬ ((2 : Int32) < 0 ∨ clz1.slots.size ≤ ((2 : Int32)).toNatClampNeg) := inb_of Sz1 ⟨by decide, by decide⟩
  have hat2 : clz1.slots[((2 : Int32)).toNatClampNeg]? = some (.long v2) := Hz1.at hin2 rfl
  obtain ⟨clz3, Arz3, qz3, Sz3, Nz3, Hz3, Gz3⟩ := id VA
  have hin4 : ¬ ((3 : Int32) < 0 ∨ clz3.slots.size ≤ ((3 : Int32)).toNatClampNeg) := inb_of Sz3 ⟨by decide, by decide⟩
  have hat4 : clz3.slots[((3 : Int32)).toNatClampNeg]? = some (.long v3) := Hz3.at hin4 rfl
  show Steps p.tables e below (T0.setTop (mkF m 143 #[.val (.ref pq), .val (.ref arr), .val (.long old), .second, .val (.long x), .second, .val (.long s'), .second, .val (.int ids), .val (.int fl), .val (.int b10), .val (.int (0 : Int32)), .val (.int (0 : Int32)), .val (.long jj), .second, .val (.long tt), .second, .val r1, .val r2, .val r3, .val r4, .unset, .unset, .unset, .unset, .unset, .unset, .unset, .unset] [])) _
  refine XS.iload X0.here hx rfl (hb hby d3_143) rfl ?_
  refine XS.ifYes X0.here hx rfl (pc0 := 145) (pc' := 153) rfl (hb hby d3_145) rfl ((if0 _ _).trans (teq (rfl : (0 : Int32) = (0 : Int32))).1) (by decide) (by decide) ?_
  refine XS.iconst X0.here hx rfl (hb hby d3_153) ?_
  refine XS.goto X0.here hx rfl (pc0 := 154) (pc' := 158) rfl (hb hby d3_154) (by decide) (by decide) ?_
  refine XS.istore X0.here hx rfl (hb hby d3_158) rfl (l' := #[.val (.ref pq), .val (.ref arr), .val (.long old), .second, .val (.long x), .second, .val (.long s'), .second, .val (.int ids), .val (.int fl), .val (.int b10), .val (.int (0 : Int32)), .val (.int (0 : Int32)), .val (.long jj), .second, .val (.long tt), .second, .val r1, .val r2, .val r3, .val r4, .val (.int (1 : Int32)), .unset, .unset, .unset, .unset, .unset, .unset, .unset]) rfl ?_
  refine XS.iload X0.here hx rfl (hb hby d3_160) rfl ?_
  refine XS.ifNo X0.here hx rfl (hb hby d3_162) rfl ((if0 _ _).trans (teq (rfl : (0 : Int32) = (0 : Int32))).2) ?_
  refine XS.lload X0.here hx rfl (hb hby d3_165) rfl ?_
  refine XS.goto X0.here hx rfl (pc0 := 167) (pc' := 172) rfl (hb hby d3_167) (by decide) (by decide) ?_
  show Steps p.tables e below (T0.setTop (mkF m 172 #[.val (.ref pq), .val (.ref arr), .val (.long old), .second, .val (.long x), .second, .val (.long s'), .second, .val (.int ids), .val (.int fl), .val (.int b10), .val (.int (0 : Int32)), .val (.int (0 : Int32)), .val (.long jj), .second, .val (.long tt), .second, .val r1, .val r2, .val r3, .val r4, .val (.int (1 : Int32)), .unset, .unset, .unset, .unset, .unset, .unset, .unset] [(.long jj)])) _
  refine XS.lstore X0.here hx rfl (hb hby d3_172) rfl (l' := #[.val (.ref pq), .val (.ref arr), .val (.long old), .second, .val (.long x), .second, .val (.long s'), .second, .val (.int ids), .val (.int fl), .val (.int b10), .val (.int (0 : Int32)), .val (.int (0 : Int32)), .val (.long jj), .second, .val (.long tt), .second, .val r1, .val r2, .val r3, .val r4, .val (.int (1 : Int32)), .val (.long jj), .second, .unset, .unset, .unset, .unset, .unset]) rfl ?_
  refine XS.aloadN X0.here hx rfl (hb hby d3_174) rfl rfl ?_
  refine XS.iconst X0.here hx rfl (hb hby d3_175) ?_
  refine X0.laload hx (j := (2 : Int32)) (v := (.long v2)) (by rw [e0]; exact Arz1.1) (State.isArrayOf_alike hZ.alike Arz1.2.1) Arz1.2.2 hin2 hat2 (g := (mkF m 176 #[.val (.ref pq), .val (.ref arr), .val (.long old), .second, .val (.long x), .second, .val (.long s'), .second, .val (.int ids), .val (.int fl), .val (.int b10), .val (.int (0 : Int32)), .val (.int (0 : Int32)), .val (.long jj), .second, .val (.long tt), .second, .val r1, .val r2, .val r3, .val r4, .val (.int (1 : Int32)), .val (.long jj), .second, .unset, .unset, .unset, .unset, .unset] [(.int (2 : Int32)), (.ref arr)])) rfl rfl (hb hby d3_176) _ ?_
  refine XS.lconst X0.here hx rfl (hb hby d3_177) ?_
  refine XS.lcmp X0.here hx rfl (hb hby d3_178) rfl ?_
  refine XS.ifNo X0.here hx rfl (hb hby d3_179) rfl ((if0 _ _).trans (feq (fun z => hc179 ((lw_eq _ _).mp z))).1) ?_
  refine XS.iload X0.here hx rfl (hb hby d3_182) rfl ?_
  refine XS.ifNo X0.here hx rfl (hb hby d3_184) rfl ((if0 _ _).trans (feq ((by decide) : ¬ ((1 : Int32) = (0 : Int32)))).1) ?_
  show Steps p.tables e below (T0.setTop (mkF m 187 #[.val (.ref pq), .val (.ref arr), .val (.long old), .second, .val (.long x), .second, .val (.long s'), .second, .val (.int ids), .val (.int fl), .val (.int b10), .val (.int (0 : Int32)), .val (.int (0 : Int32)), .val (.long jj), .second, .val (.long tt), .second, .val r1, .val r2, .val r3, .val r4, .val (.int (1 : Int32)), .val (.long jj), .second, .unset, .unset, .unset, .unset, .unset] [])) _
  refine XS.aloadN X0.here hx rfl (hb hby d3_187) rfl rfl ?_
  refine XS.iconst X0.here hx rfl (hb hby d3_188) ?_
  refine X0.laload hx (j := (3 : Int32)) (v := (.long v3)) (by rw [e0]; exact Arz3.1) (State.isArrayOf_alike hZ.alike Arz3.2.1) Arz3.2.2 hin4 hat4 (g := (mkF m 189 #[.val (.ref pq), .val (.ref arr), .val (.long old), .second, .val (.long x), .second, .val (.long s'), .second, .val (.int ids), .val (.int fl), .val (.int b10), .val (.int (0 : Int32)), .val (.int (0 : Int32)), .val (.long jj), .second, .val (.long tt), .second, .val r1, .val r2, .val r3, .val r4, .val (.int (1 : Int32)), .val (.long jj), .second, .unset, .unset, .unset, .unset, .unset] [(.int (3 : Int32)), (.ref arr)])) rfl rfl (hb hby d3_189) _ ?_
  refine XS.lload X0.here hx rfl (hb hby d3_190) rfl ?_
  refine XS.lcmp X0.here hx rfl (hb hby d3_192) rfl ?_
  refine XS.ifYes X0.here hx rfl (pc0 := 193) (pc' := 200) rfl (hb hby d3_193) rfl ((if0 _ _).trans (feq (fun z => hc193 ((lw_eq _ _).mp z))).2) (by decide) (by decide) ?_
  refine XS.iconst X0.here hx rfl (hb hby d3_200) ?_
  refine XS.istore X0.here hx rfl (hb hby d3_201) rfl (l' := #[.val (.ref pq), .val (.ref arr), .val (.long old), .second, .val (.long x), .second, .val (.long s'), .second, .val (.int ids), .val (.int fl), .val (.int b10), .val (.int (0 : Int32)), .val (.int (0 : Int32)), .val (.long jj), .second, .val (.long tt), .second, .val r1, .val r2, .val r3, .val r4, .val (.int (1 : Int32)), .val (.long jj), .second, .val (.int (0 : Int32)), .unset, .unset, .unset, .unset]) rfl ?_
  exact kt
theorem d3_196 : decode method_4_code 196 = .ok (.iconst 1, 1) := by decide +kernel
theorem d3_197 : decode method_4_code 197 = .ok (.goto 4, 3) := by decide +kernel
set_option maxRecDepth 65536 in
set_option maxHeartbeats 40000000 in
theorem s2_00_s {p : Program} {l : Launch} {e : Env} {s : State} {m : MethodId} {args : Array Value} {below : List Frame} {meth : Method} {c : Code} {T0 : State} {locs : List Loc} {cells slots : Nat} {Z : State} {a0 : Array Value} {h0 : Heap} (pq : Addr) (arr : Addr) (k : ClassId) (old : Int64) (x : Int64) (s' : Int64) (ids : Int32) (fl : Int32) (b10 : Int32) (jj : Int64) (tt : Int64) (r1 : Value) (r2 : Value) (r3 : Value) (r4 : Value) (v0 : Int64) (v1 : Int64) (v2 : Int64) (v3 : Int64)
    (X0 : Stand p l e rr_4_4_4_53 s m args below meth c T0 locs cells slots) (hx : p.tables.exec = Jvm.exec) (hZ : Z.Warmed39 s.vm) (hw : ∀ d ∈ tables_1, d.before a0 Z = true) (hby : c.code = method_4_code) (hml : c.maxLocals = 29) (hown : s.vm.findClass "com/example/keyed_work_queue/keyedworkqueue/PendingFoundPinLaw" = some m.cls) (e0 : T0.heap = h0) (hcl : cells ≤ rr_4_4_4_53.cells) (hsl : slots ≤ rr_4_4_4_53.slots) (VA : Arv Z h0 arr k .long (4 : Int32) [(.long v0), (.long v1), (.long v2), (.long v3)] (.long (0 : Int64))) (hc179 : ¬ (v2 = (0 : Int64))) (hc193 : v3 = jj) :
    ∀ target, Steps p.tables e below (T0.setTop (mkF m 203 #[.val (.ref pq), .val (.ref arr), .val (.long old), .second, .val (.long x), .second, .val (.long s'), .second, .val (.int ids), .val (.int fl), .val (.int b10), .val (.int (0 : Int32)), .val (.int (0 : Int32)), .val (.long jj), .second, .val (.long tt), .second, .val r1, .val r2, .val r3, .val r4, .val (.int (1 : Int32)), .val (.long jj), .second, .val (.int (1 : Int32)), .unset, .unset, .unset, .unset] [])) target → Steps p.tables e below (T0.setTop (mkF m 143 #[.val (.ref pq), .val (.ref arr), .val (.long old), .second, .val (.long x), .second, .val (.long s'), .second, .val (.int ids), .val (.int fl), .val (.int b10), .val (.int (0 : Int32)), .val (.int (0 : Int32)), .val (.long jj), .second, .val (.long tt), .second, .val r1, .val r2, .val r3, .val r4, .unset, .unset, .unset, .unset, .unset, .unset, .unset, .unset] [])) target := by
  intro target kt
  obtain ⟨clz1, Arz1, qz1, Sz1, Nz1, Hz1, Gz1⟩ := id VA
  have hin2 : ¬ ((2 : Int32) < 0 ∨ clz1.slots.size ≤ ((2 : Int32)).toNatClampNeg) := inb_of Sz1 ⟨by decide, by decide⟩
  have hat2 : clz1.slots[((2 : Int32)).toNatClampNeg]? = some (.long v2) := Hz1.at hin2 rfl
  obtain ⟨clz3, Arz3, qz3, Sz3, Nz3, Hz3, Gz3⟩ := id VA
  have hin4 : ¬ ((3 : Int32) < 0 ∨ clz3.slots.size ≤ ((3 : Int32)).toNatClampNeg) := inb_of Sz3 ⟨by decide, by decide⟩
  have hat4 : clz3.slots[((3 : Int32)).toNatClampNeg]? = some (.long v3) := Hz3.at hin4 rfl
  show Steps p.tables e below (T0.setTop (mkF m 143 #[.val (.ref pq), .val (.ref arr), .val (.long old), .second, .val (.long x), .second, .val (.long s'), .second, .val (.int ids), .val (.int fl), .val (.int b10), .val (.int (0 : Int32)), .val (.int (0 : Int32)), .val (.long jj), .second, .val (.long tt), .second, .val r1, .val r2, .val r3, .val r4, .unset, .unset, .unset, .unset, .unset, .unset, .unset, .unset] [])) _
  refine XS.iload X0.here hx rfl (hb hby d3_143) rfl ?_
  refine XS.ifYes X0.here hx rfl (pc0 := 145) (pc' := 153) rfl (hb hby d3_145) rfl ((if0 _ _).trans (teq (rfl : (0 : Int32) = (0 : Int32))).1) (by decide) (by decide) ?_
  refine XS.iconst X0.here hx rfl (hb hby d3_153) ?_
  refine XS.goto X0.here hx rfl (pc0 := 154) (pc' := 158) rfl (hb hby d3_154) (by decide) (by decide) ?_
  refine XS.istore X0.here hx rfl (hb hby d3_158) rfl (l' := #[.val (.ref pq), .val (.ref arr), .val (.long old), .second, .val (.long x), .second, .val (.long s'), .second, .val (.int ids), .val (.int fl), .val (.int b10), .val (.int (0 : Int32)), .val (.int (0 : Int32)), .val (.long jj), .second, .val (.long tt), .second, .val r1, .val r2, .val r3, .val r4, .val (.int (1 : Int32)), .unset, .unset, .unset, .unset, .unset, .unset, .unset]) rfl ?_
  refine XS.iload X0.here hx rfl (hb hby d3_160) rfl ?_
  refine XS.ifNo X0.here hx rfl (hb hby d3_162) rfl ((if0 _ _).trans (teq (rfl : (0 : Int32) = (0 : Int32))).2) ?_
  refine XS.lload X0.here hx rfl (hb hby d3_165) rfl ?_
  refine XS.goto X0.here hx rfl (pc0 := 167) (pc' := 172) rfl (hb hby d3_167) (by decide) (by decide) ?_
  show Steps p.tables e below (T0.setTop (mkF m 172 #[.val (.ref pq), .val (.ref arr), .val (.long old), .second, .val (.long x), .second, .val (.long s'), .second, .val (.int ids), .val (.int fl), .val (.int b10), .val (.int (0 : Int32)), .val (.int (0 : Int32)), .val (.long jj), .second, .val (.long tt), .second, .val r1, .val r2, .val r3, .val r4, .val (.int (1 : Int32)), .unset, .unset, .unset, .unset, .unset, .unset, .unset] [(.long jj)])) _
  refine XS.lstore X0.here hx rfl (hb hby d3_172) rfl (l' := #[.val (.ref pq), .val (.ref arr), .val (.long old), .second, .val (.long x), .second, .val (.long s'), .second, .val (.int ids), .val (.int fl), .val (.int b10), .val (.int (0 : Int32)), .val (.int (0 : Int32)), .val (.long jj), .second, .val (.long tt), .second, .val r1, .val r2, .val r3, .val r4, .val (.int (1 : Int32)), .val (.long jj), .second, .unset, .unset, .unset, .unset, .unset]) rfl ?_
  refine XS.aloadN X0.here hx rfl (hb hby d3_174) rfl rfl ?_
  refine XS.iconst X0.here hx rfl (hb hby d3_175) ?_
  refine X0.laload hx (j := (2 : Int32)) (v := (.long v2)) (by rw [e0]; exact Arz1.1) (State.isArrayOf_alike hZ.alike Arz1.2.1) Arz1.2.2 hin2 hat2 (g := (mkF m 176 #[.val (.ref pq), .val (.ref arr), .val (.long old), .second, .val (.long x), .second, .val (.long s'), .second, .val (.int ids), .val (.int fl), .val (.int b10), .val (.int (0 : Int32)), .val (.int (0 : Int32)), .val (.long jj), .second, .val (.long tt), .second, .val r1, .val r2, .val r3, .val r4, .val (.int (1 : Int32)), .val (.long jj), .second, .unset, .unset, .unset, .unset, .unset] [(.int (2 : Int32)), (.ref arr)])) rfl rfl (hb hby d3_176) _ ?_
  refine XS.lconst X0.here hx rfl (hb hby d3_177) ?_
  refine XS.lcmp X0.here hx rfl (hb hby d3_178) rfl ?_
  refine XS.ifNo X0.here hx rfl (hb hby d3_179) rfl ((if0 _ _).trans (feq (fun z => hc179 ((lw_eq _ _).mp z))).1) ?_
  refine XS.iload X0.here hx rfl (hb hby d3_182) rfl ?_
  refine XS.ifNo X0.here hx rfl (hb hby d3_184) rfl ((if0 _ _).trans (feq ((by decide) : ¬ ((1 : Int32) = (0 : Int32)))).1) ?_
  show Steps p.tables e below (T0.setTop (mkF m 187 #[.val (.ref pq), .val (.ref arr), .val (.long old), .second, .val (.long x), .second, .val (.long s'), .second, .val (.int ids), .val (.int fl), .val (.int b10), .val (.int (0 : Int32)), .val (.int (0 : Int32)), .val (.long jj), .second, .val (.long tt), .second, .val r1, .val r2, .val r3, .val r4, .val (.int (1 : Int32)), .val (.long jj), .second, .unset, .unset, .unset, .unset, .unset] [])) _
  refine XS.aloadN X0.here hx rfl (hb hby d3_187) rfl rfl ?_
  refine XS.iconst X0.here hx rfl (hb hby d3_188) ?_
  refine X0.laload hx (j := (3 : Int32)) (v := (.long v3)) (by rw [e0]; exact Arz3.1) (State.isArrayOf_alike hZ.alike Arz3.2.1) Arz3.2.2 hin4 hat4 (g := (mkF m 189 #[.val (.ref pq), .val (.ref arr), .val (.long old), .second, .val (.long x), .second, .val (.long s'), .second, .val (.int ids), .val (.int fl), .val (.int b10), .val (.int (0 : Int32)), .val (.int (0 : Int32)), .val (.long jj), .second, .val (.long tt), .second, .val r1, .val r2, .val r3, .val r4, .val (.int (1 : Int32)), .val (.long jj), .second, .unset, .unset, .unset, .unset, .unset] [(.int (3 : Int32)), (.ref arr)])) rfl rfl (hb hby d3_189) _ ?_
  refine XS.lload X0.here hx rfl (hb hby d3_190) rfl ?_
  refine XS.lcmp X0.here hx rfl (hb hby d3_192) rfl ?_
  refine XS.ifNo X0.here hx rfl (hb hby d3_193) rfl ((if0 _ _).trans (teq ((lw_eq _ _).mpr hc193)).2) ?_
  refine XS.iconst X0.here hx rfl (hb hby d3_196) ?_
  refine XS.goto X0.here hx rfl (pc0 := 197) (pc' := 201) rfl (hb hby d3_197) (by decide) (by decide) ?_
  refine XS.istore X0.here hx rfl (hb hby d3_201) rfl (l' := #[.val (.ref pq), .val (.ref arr), .val (.long old), .second, .val (.long x), .second, .val (.long s'), .second, .val (.int ids), .val (.int fl), .val (.int b10), .val (.int (0 : Int32)), .val (.int (0 : Int32)), .val (.long jj), .second, .val (.long tt), .second, .val r1, .val r2, .val r3, .val r4, .val (.int (1 : Int32)), .val (.long jj), .second, .val (.int (1 : Int32)), .unset, .unset, .unset, .unset]) rfl ?_
  exact kt
set_option maxRecDepth 65536 in
set_option maxHeartbeats 40000000 in
theorem s2_00 {p : Program} {l : Launch} {e : Env} {s : State} {m : MethodId} {args : Array Value} {below : List Frame} {meth : Method} {c : Code} {T0 : State} {locs : List Loc} {cells slots : Nat} {Z : State} {a0 : Array Value} {h0 : Heap} (pq : Addr) (arr : Addr) (k : ClassId) (old : Int64) (x : Int64) (s' : Int64) (ids : Int32) (fl : Int32) (b10 : Int32) (jj : Int64) (tt : Int64) (r1 : Value) (r2 : Value) (r3 : Value) (r4 : Value) (v0 : Int64) (v1 : Int64) (v2 : Int64) (v3 : Int64)
    (X0 : Stand p l e rr_4_4_4_53 s m args below meth c T0 locs cells slots) (hx : p.tables.exec = Jvm.exec) (hZ : Z.Warmed39 s.vm) (hw : ∀ d ∈ tables_1, d.before a0 Z = true) (hby : c.code = method_4_code) (hml : c.maxLocals = 29) (hown : s.vm.findClass "com/example/keyed_work_queue/keyedworkqueue/PendingFoundPinLaw" = some m.cls) (e0 : T0.heap = h0) (hcl : cells ≤ rr_4_4_4_53.cells) (hsl : slots ≤ rr_4_4_4_53.slots) (VA : Arv Z h0 arr k .long (4 : Int32) [(.long v0), (.long v1), (.long v2), (.long v3)] (.long (0 : Int64))) :
    ∀ target, Steps p.tables e below (T0.setTop (mkF m 203 #[.val (.ref pq), .val (.ref arr), .val (.long old), .second, .val (.long x), .second, .val (.long s'), .second, .val (.int ids), .val (.int fl), .val (.int b10), .val (.int (0 : Int32)), .val (.int (0 : Int32)), .val (.long jj), .second, .val (.long tt), .second, .val r1, .val r2, .val r3, .val r4, .val (.int (1 : Int32)), .val (.long jj), .second, .val (.int (own_sm (True) v2 v3 jj)), .unset, .unset, .unset, .unset] [])) target → Steps p.tables e below (T0.setTop (mkF m 143 #[.val (.ref pq), .val (.ref arr), .val (.long old), .second, .val (.long x), .second, .val (.long s'), .second, .val (.int ids), .val (.int fl), .val (.int b10), .val (.int (0 : Int32)), .val (.int (0 : Int32)), .val (.long jj), .second, .val (.long tt), .second, .val r1, .val r2, .val r3, .val r4, .unset, .unset, .unset, .unset, .unset, .unset, .unset, .unset] [])) target := by
  intro target kt
  revert kt
  by_cases c1 : v2 = 0
  · rw [show own_sm (True) v2 v3 jj = 0 from if_neg (fun z => z.1 c1)]; exact s2_00_z pq arr k old x s' ids fl b10 jj tt r1 r2 r3 r4 v0 v1 v2 v3 X0 hx hZ hw hby hml hown e0 hcl hsl VA c1 target
  by_cases c2 : v3 = jj
  · rw [show own_sm (True) v2 v3 jj = 1 from if_pos ⟨c1, trivial, c2⟩]; exact s2_00_s pq arr k old x s' ids fl b10 jj tt r1 r2 r3 r4 v0 v1 v2 v3 X0 hx hZ hw hby hml hown e0 hcl hsl VA c1 c2 target
  · rw [show own_sm (True) v2 v3 jj = 0 from if_neg (fun z => c2 z.2.2)]; exact s2_00_d pq arr k old x s' ids fl b10 jj tt r1 r2 r3 r4 v0 v1 v2 v3 X0 hx hZ hw hby hml hown e0 hcl hsl VA c1 c2 target
set_option maxRecDepth 65536 in
set_option maxHeartbeats 40000000 in
theorem s2_01_z {p : Program} {l : Launch} {e : Env} {s : State} {m : MethodId} {args : Array Value} {below : List Frame} {meth : Method} {c : Code} {T0 : State} {locs : List Loc} {cells slots : Nat} {Z : State} {a0 : Array Value} {h0 : Heap} (pq : Addr) (arr : Addr) (k : ClassId) (old : Int64) (x : Int64) (s' : Int64) (ids : Int32) (fl : Int32) (b10 : Int32) (jj : Int64) (tt : Int64) (r1 : Value) (r2 : Value) (r3 : Value) (r4 : Value) (v0 : Int64) (v1 : Int64) (v2 : Int64) (v3 : Int64)
    (X0 : Stand p l e rr_4_4_4_53 s m args below meth c T0 locs cells slots) (hx : p.tables.exec = Jvm.exec) (hZ : Z.Warmed39 s.vm) (hw : ∀ d ∈ tables_1, d.before a0 Z = true) (hby : c.code = method_4_code) (hml : c.maxLocals = 29) (hown : s.vm.findClass "com/example/keyed_work_queue/keyedworkqueue/PendingFoundPinLaw" = some m.cls) (e0 : T0.heap = h0) (hcl : cells ≤ rr_4_4_4_53.cells) (hsl : slots ≤ rr_4_4_4_53.slots) (VA : Arv Z h0 arr k .long (4 : Int32) [(.long v0), (.long v1), (.long v2), (.long v3)] (.long (0 : Int64))) (hc179 : v2 = (0 : Int64)) :
    ∀ target, Steps p.tables e below (T0.setTop (mkF m 203 #[.val (.ref pq), .val (.ref arr), .val (.long old), .second, .val (.long x), .second, .val (.long s'), .second, .val (.int ids), .val (.int fl), .val (.int b10), .val (.int (0 : Int32)), .val (.int (1 : Int32)), .val (.long jj), .second, .val (.long tt), .second, .val r1, .val r2, .val r3, .val r4, .val (.int (1 : Int32)), .val (.long jj), .second, .val (.int (0 : Int32)), .unset, .unset, .unset, .unset] [])) target → Steps p.tables e below (T0.setTop (mkF m 143 #[.val (.ref pq), .val (.ref arr), .val (.long old), .second, .val (.long x), .second, .val (.long s'), .second, .val (.int ids), .val (.int fl), .val (.int b10), .val (.int (0 : Int32)), .val (.int (1 : Int32)), .val (.long jj), .second, .val (.long tt), .second, .val r1, .val r2, .val r3, .val r4, .unset, .unset, .unset, .unset, .unset, .unset, .unset, .unset] [])) target := by
  intro target kt
  obtain ⟨clz1, Arz1, qz1, Sz1, Nz1, Hz1, Gz1⟩ := id VA
  have hin2 : ¬ ((2 : Int32) < 0 ∨ clz1.slots.size ≤ ((2 : Int32)).toNatClampNeg) := inb_of Sz1 ⟨by decide, by decide⟩
  have hat2 : clz1.slots[((2 : Int32)).toNatClampNeg]? = some (.long v2) := Hz1.at hin2 rfl
  show Steps p.tables e below (T0.setTop (mkF m 143 #[.val (.ref pq), .val (.ref arr), .val (.long old), .second, .val (.long x), .second, .val (.long s'), .second, .val (.int ids), .val (.int fl), .val (.int b10), .val (.int (0 : Int32)), .val (.int (1 : Int32)), .val (.long jj), .second, .val (.long tt), .second, .val r1, .val r2, .val r3, .val r4, .unset, .unset, .unset, .unset, .unset, .unset, .unset, .unset] [])) _
  refine XS.iload X0.here hx rfl (hb hby d3_143) rfl ?_
  refine XS.ifYes X0.here hx rfl (pc0 := 145) (pc' := 153) rfl (hb hby d3_145) rfl ((if0 _ _).trans (teq (rfl : (0 : Int32) = (0 : Int32))).1) (by decide) (by decide) ?_
  refine XS.iconst X0.here hx rfl (hb hby d3_153) ?_
  refine XS.goto X0.here hx rfl (pc0 := 154) (pc' := 158) rfl (hb hby d3_154) (by decide) (by decide) ?_
  refine XS.istore X0.here hx rfl (hb hby d3_158) rfl (l' := #[.val (.ref pq), .val (.ref arr), .val (.long old), .second, .val (.long x), .second, .val (.long s'), .second, .val (.int ids), .val (.int fl), .val (.int b10), .val (.int (0 : Int32)), .val (.int (1 : Int32)), .val (.long jj), .second, .val (.long tt), .second, .val r1, .val r2, .val r3, .val r4, .val (.int (1 : Int32)), .unset, .unset, .unset, .unset, .unset, .unset, .unset]) rfl ?_
  refine XS.iload X0.here hx rfl (hb hby d3_160) rfl ?_
  refine XS.ifNo X0.here hx rfl (hb hby d3_162) rfl ((if0 _ _).trans (teq (rfl : (0 : Int32) = (0 : Int32))).2) ?_
  refine XS.lload X0.here hx rfl (hb hby d3_165) rfl ?_
  refine XS.goto X0.here hx rfl (pc0 := 167) (pc' := 172) rfl (hb hby d3_167) (by decide) (by decide) ?_
  show Steps p.tables e below (T0.setTop (mkF m 172 #[.val (.ref pq), .val (.ref arr), .val (.long old), .second, .val (.long x), .second, .val (.long s'), .second, .val (.int ids), .val (.int fl), .val (.int b10), .val (.int (0 : Int32)), .val (.int (1 : Int32)), .val (.long jj), .second, .val (.long tt), .second, .val r1, .val r2, .val r3, .val r4, .val (.int (1 : Int32)), .unset, .unset, .unset, .unset, .unset, .unset, .unset] [(.long jj)])) _
  refine XS.lstore X0.here hx rfl (hb hby d3_172) rfl (l' := #[.val (.ref pq), .val (.ref arr), .val (.long old), .second, .val (.long x), .second, .val (.long s'), .second, .val (.int ids), .val (.int fl), .val (.int b10), .val (.int (0 : Int32)), .val (.int (1 : Int32)), .val (.long jj), .second, .val (.long tt), .second, .val r1, .val r2, .val r3, .val r4, .val (.int (1 : Int32)), .val (.long jj), .second, .unset, .unset, .unset, .unset, .unset]) rfl ?_
  refine XS.aloadN X0.here hx rfl (hb hby d3_174) rfl rfl ?_
  refine XS.iconst X0.here hx rfl (hb hby d3_175) ?_
  refine X0.laload hx (j := (2 : Int32)) (v := (.long v2)) (by rw [e0]; exact Arz1.1) (State.isArrayOf_alike hZ.alike Arz1.2.1) Arz1.2.2 hin2 hat2 (g := (mkF m 176 #[.val (.ref pq), .val (.ref arr), .val (.long old), .second, .val (.long x), .second, .val (.long s'), .second, .val (.int ids), .val (.int fl), .val (.int b10), .val (.int (0 : Int32)), .val (.int (1 : Int32)), .val (.long jj), .second, .val (.long tt), .second, .val r1, .val r2, .val r3, .val r4, .val (.int (1 : Int32)), .val (.long jj), .second, .unset, .unset, .unset, .unset, .unset] [(.int (2 : Int32)), (.ref arr)])) rfl rfl (hb hby d3_176) _ ?_
  refine XS.lconst X0.here hx rfl (hb hby d3_177) ?_
  refine XS.lcmp X0.here hx rfl (hb hby d3_178) rfl ?_
  refine XS.ifYes X0.here hx rfl (pc0 := 179) (pc' := 200) rfl (hb hby d3_179) rfl ((if0 _ _).trans (teq ((lw_eq _ _).mpr hc179)).1) (by decide) (by decide) ?_
  refine XS.iconst X0.here hx rfl (hb hby d3_200) ?_
  refine XS.istore X0.here hx rfl (hb hby d3_201) rfl (l' := #[.val (.ref pq), .val (.ref arr), .val (.long old), .second, .val (.long x), .second, .val (.long s'), .second, .val (.int ids), .val (.int fl), .val (.int b10), .val (.int (0 : Int32)), .val (.int (1 : Int32)), .val (.long jj), .second, .val (.long tt), .second, .val r1, .val r2, .val r3, .val r4, .val (.int (1 : Int32)), .val (.long jj), .second, .val (.int (0 : Int32)), .unset, .unset, .unset, .unset]) rfl ?_
  exact kt
set_option maxRecDepth 65536 in
set_option maxHeartbeats 40000000 in
theorem s2_01_d {p : Program} {l : Launch} {e : Env} {s : State} {m : MethodId} {args : Array Value} {below : List Frame} {meth : Method} {c : Code} {T0 : State} {locs : List Loc} {cells slots : Nat} {Z : State} {a0 : Array Value} {h0 : Heap} (pq : Addr) (arr : Addr) (k : ClassId) (old : Int64) (x : Int64) (s' : Int64) (ids : Int32) (fl : Int32) (b10 : Int32) (jj : Int64) (tt : Int64) (r1 : Value) (r2 : Value) (r3 : Value) (r4 : Value) (v0 : Int64) (v1 : Int64) (v2 : Int64) (v3 : Int64)
    (X0 : Stand p l e rr_4_4_4_53 s m args below meth c T0 locs cells slots) (hx : p.tables.exec = Jvm.exec) (hZ : Z.Warmed39 s.vm) (hw : ∀ d ∈ tables_1, d.before a0 Z = true) (hby : c.code = method_4_code) (hml : c.maxLocals = 29) (hown : s.vm.findClass "com/example/keyed_work_queue/keyedworkqueue/PendingFoundPinLaw" = some m.cls) (e0 : T0.heap = h0) (hcl : cells ≤ rr_4_4_4_53.cells) (hsl : slots ≤ rr_4_4_4_53.slots) (VA : Arv Z h0 arr k .long (4 : Int32) [(.long v0), (.long v1), (.long v2), (.long v3)] (.long (0 : Int64))) (hc179 : ¬ (v2 = (0 : Int64))) (hc193 : ¬ (v3 = jj)) :
    ∀ target, Steps p.tables e below (T0.setTop (mkF m 203 #[.val (.ref pq), .val (.ref arr), .val (.long old), .second, .val (.long x), .second, .val (.long s'), .second, .val (.int ids), .val (.int fl), .val (.int b10), .val (.int (0 : Int32)), .val (.int (1 : Int32)), .val (.long jj), .second, .val (.long tt), .second, .val r1, .val r2, .val r3, .val r4, .val (.int (1 : Int32)), .val (.long jj), .second, .val (.int (0 : Int32)), .unset, .unset, .unset, .unset] [])) target → Steps p.tables e below (T0.setTop (mkF m 143 #[.val (.ref pq), .val (.ref arr), .val (.long old), .second, .val (.long x), .second, .val (.long s'), .second, .val (.int ids), .val (.int fl), .val (.int b10), .val (.int (0 : Int32)), .val (.int (1 : Int32)), .val (.long jj), .second, .val (.long tt), .second, .val r1, .val r2, .val r3, .val r4, .unset, .unset, .unset, .unset, .unset, .unset, .unset, .unset] [])) target := by
  intro target kt
  obtain ⟨clz1, Arz1, qz1, Sz1, Nz1, Hz1, Gz1⟩ := id VA
  have hin2 : ¬ ((2 : Int32) < 0 ∨ clz1.slots.size ≤ ((2 : Int32)).toNatClampNeg) := inb_of Sz1 ⟨by decide, by decide⟩
  have hat2 : clz1.slots[((2 : Int32)).toNatClampNeg]? = some (.long v2) := Hz1.at hin2 rfl
  obtain ⟨clz3, Arz3, qz3, Sz3, Nz3, Hz3, Gz3⟩ := id VA
  have hin4 : ¬ ((3 : Int32) < 0 ∨ clz3.slots.size ≤ ((3 : Int32)).toNatClampNeg) := inb_of Sz3 ⟨by decide, by decide⟩
  have hat4 : clz3.slots[((3 : Int32)).toNatClampNeg]? = some (.long v3) := Hz3.at hin4 rfl
  show Steps p.tables e below (T0.setTop (mkF m 143 #[.val (.ref pq), .val (.ref arr), .val (.long old), .second, .val (.long x), .second, .val (.long s'), .second, .val (.int ids), .val (.int fl), .val (.int b10), .val (.int (0 : Int32)), .val (.int (1 : Int32)), .val (.long jj), .second, .val (.long tt), .second, .val r1, .val r2, .val r3, .val r4, .unset, .unset, .unset, .unset, .unset, .unset, .unset, .unset] [])) _
  refine XS.iload X0.here hx rfl (hb hby d3_143) rfl ?_
  refine XS.ifYes X0.here hx rfl (pc0 := 145) (pc' := 153) rfl (hb hby d3_145) rfl ((if0 _ _).trans (teq (rfl : (0 : Int32) = (0 : Int32))).1) (by decide) (by decide) ?_
  refine XS.iconst X0.here hx rfl (hb hby d3_153) ?_
  refine XS.goto X0.here hx rfl (pc0 := 154) (pc' := 158) rfl (hb hby d3_154) (by decide) (by decide) ?_
  refine XS.istore X0.here hx rfl (hb hby d3_158) rfl (l' := #[.val (.ref pq), .val (.ref arr), .val (.long old), .second, .val (.long x), .second, .val (.long s'), .second, .val (.int ids), .val (.int fl), .val (.int b10), .val (.int (0 : Int32)), .val (.int (1 : Int32)), .val (.long jj), .second, .val (.long tt), .second, .val r1, .val r2, .val r3, .val r4, .val (.int (1 : Int32)), .unset, .unset, .unset, .unset, .unset, .unset, .unset]) rfl ?_
  refine XS.iload X0.here hx rfl (hb hby d3_160) rfl ?_
  refine XS.ifNo X0.here hx rfl (hb hby d3_162) rfl ((if0 _ _).trans (teq (rfl : (0 : Int32) = (0 : Int32))).2) ?_
  refine XS.lload X0.here hx rfl (hb hby d3_165) rfl ?_
  refine XS.goto X0.here hx rfl (pc0 := 167) (pc' := 172) rfl (hb hby d3_167) (by decide) (by decide) ?_
  show Steps p.tables e below (T0.setTop (mkF m 172 #[.val (.ref pq), .val (.ref arr), .val (.long old), .second, .val (.long x), .second, .val (.long s'), .second, .val (.int ids), .val (.int fl), .val (.int b10), .val (.int (0 : Int32)), .val (.int (1 : Int32)), .val (.long jj), .second, .val (.long tt), .second, .val r1, .val r2, .val r3, .val r4, .val (.int (1 : Int32)), .unset, .unset, .unset, .unset, .unset, .unset, .unset] [(.long jj)])) _
  refine XS.lstore X0.here hx rfl (hb hby d3_172) rfl (l' := #[.val (.ref pq), .val (.ref arr), .val (.long old), .second, .val (.long x), .second, .val (.long s'), .second, .val (.int ids), .val (.int fl), .val (.int b10), .val (.int (0 : Int32)), .val (.int (1 : Int32)), .val (.long jj), .second, .val (.long tt), .second, .val r1, .val r2, .val r3, .val r4, .val (.int (1 : Int32)), .val (.long jj), .second, .unset, .unset, .unset, .unset, .unset]) rfl ?_
  refine XS.aloadN X0.here hx rfl (hb hby d3_174) rfl rfl ?_
  refine XS.iconst X0.here hx rfl (hb hby d3_175) ?_
  refine X0.laload hx (j := (2 : Int32)) (v := (.long v2)) (by rw [e0]; exact Arz1.1) (State.isArrayOf_alike hZ.alike Arz1.2.1) Arz1.2.2 hin2 hat2 (g := (mkF m 176 #[.val (.ref pq), .val (.ref arr), .val (.long old), .second, .val (.long x), .second, .val (.long s'), .second, .val (.int ids), .val (.int fl), .val (.int b10), .val (.int (0 : Int32)), .val (.int (1 : Int32)), .val (.long jj), .second, .val (.long tt), .second, .val r1, .val r2, .val r3, .val r4, .val (.int (1 : Int32)), .val (.long jj), .second, .unset, .unset, .unset, .unset, .unset] [(.int (2 : Int32)), (.ref arr)])) rfl rfl (hb hby d3_176) _ ?_
  refine XS.lconst X0.here hx rfl (hb hby d3_177) ?_
  refine XS.lcmp X0.here hx rfl (hb hby d3_178) rfl ?_
  refine XS.ifNo X0.here hx rfl (hb hby d3_179) rfl ((if0 _ _).trans (feq (fun z => hc179 ((lw_eq _ _).mp z))).1) ?_
  refine XS.iload X0.here hx rfl (hb hby d3_182) rfl ?_
  refine XS.ifNo X0.here hx rfl (hb hby d3_184) rfl ((if0 _ _).trans (feq ((by decide) : ¬ ((1 : Int32) = (0 : Int32)))).1) ?_
  show Steps p.tables e below (T0.setTop (mkF m 187 #[.val (.ref pq), .val (.ref arr), .val (.long old), .second, .val (.long x), .second, .val (.long s'), .second, .val (.int ids), .val (.int fl), .val (.int b10), .val (.int (0 : Int32)), .val (.int (1 : Int32)), .val (.long jj), .second, .val (.long tt), .second, .val r1, .val r2, .val r3, .val r4, .val (.int (1 : Int32)), .val (.long jj), .second, .unset, .unset, .unset, .unset, .unset] [])) _
  refine XS.aloadN X0.here hx rfl (hb hby d3_187) rfl rfl ?_
  refine XS.iconst X0.here hx rfl (hb hby d3_188) ?_
  refine X0.laload hx (j := (3 : Int32)) (v := (.long v3)) (by rw [e0]; exact Arz3.1) (State.isArrayOf_alike hZ.alike Arz3.2.1) Arz3.2.2 hin4 hat4 (g := (mkF m 189 #[.val (.ref pq), .val (.ref arr), .val (.long old), .second, .val (.long x), .second, .val (.long s'), .second, .val (.int ids), .val (.int fl), .val (.int b10), .val (.int (0 : Int32)), .val (.int (1 : Int32)), .val (.long jj), .second, .val (.long tt), .second, .val r1, .val r2, .val r3, .val r4, .val (.int (1 : Int32)), .val (.long jj), .second, .unset, .unset, .unset, .unset, .unset] [(.int (3 : Int32)), (.ref arr)])) rfl rfl (hb hby d3_189) _ ?_
  refine XS.lload X0.here hx rfl (hb hby d3_190) rfl ?_
  refine XS.lcmp X0.here hx rfl (hb hby d3_192) rfl ?_
  refine XS.ifYes X0.here hx rfl (pc0 := 193) (pc' := 200) rfl (hb hby d3_193) rfl ((if0 _ _).trans (feq (fun z => hc193 ((lw_eq _ _).mp z))).2) (by decide) (by decide) ?_
  refine XS.iconst X0.here hx rfl (hb hby d3_200) ?_
  refine XS.istore X0.here hx rfl (hb hby d3_201) rfl (l' := #[.val (.ref pq), .val (.ref arr), .val (.long old), .second, .val (.long x), .second, .val (.long s'), .second, .val (.int ids), .val (.int fl), .val (.int b10), .val (.int (0 : Int32)), .val (.int (1 : Int32)), .val (.long jj), .second, .val (.long tt), .second, .val r1, .val r2, .val r3, .val r4, .val (.int (1 : Int32)), .val (.long jj), .second, .val (.int (0 : Int32)), .unset, .unset, .unset, .unset]) rfl ?_
  exact kt
set_option maxRecDepth 65536 in
set_option maxHeartbeats 40000000 in
theorem s2_01_s {p : Program} {l : Launch} {e : Env} {s : State} {m : MethodId} {args : Array Value} {below : List Frame} {meth : Method} {c : Code} {T0 : State} {locs : List Loc} {cells slots : Nat} {Z : State} {a0 : Array Value} {h0 : Heap} (pq : Addr) (arr : Addr) (k : ClassId) (old : Int64) (x : Int64) (s' : Int64) (ids : Int32) (fl : Int32) (b10 : Int32) (jj : Int64) (tt : Int64) (r1 : Value) (r2 : Value) (r3 : Value) (r4 : Value) (v0 : Int64) (v1 : Int64) (v2 : Int64) (v3 : Int64)
    (X0 : Stand p l e rr_4_4_4_53 s m args below meth c T0 locs cells slots) (hx : p.tables.exec = Jvm.exec) (hZ : Z.Warmed39 s.vm) (hw : ∀ d ∈ tables_1, d.before a0 Z = true) (hby : c.code = method_4_code) (hml : c.maxLocals = 29) (hown : s.vm.findClass "com/example/keyed_work_queue/keyedworkqueue/PendingFoundPinLaw" = some m.cls) (e0 : T0.heap = h0) (hcl : cells ≤ rr_4_4_4_53.cells) (hsl : slots ≤ rr_4_4_4_53.slots) (VA : Arv Z h0 arr k .long (4 : Int32) [(.long v0), (.long v1), (.long v2), (.long v3)] (.long (0 : Int64))) (hc179 : ¬ (v2 = (0 : Int64))) (hc193 : v3 = jj) :
    ∀ target, Steps p.tables e below (T0.setTop (mkF m 203 #[.val (.ref pq), .val (.ref arr), .val (.long old), .second, .val (.long x), .second, .val (.long s'), .second, .val (.int ids), .val (.int fl), .val (.int b10), .val (.int (0 : Int32)), .val (.int (1 : Int32)), .val (.long jj), .second, .val (.long tt), .second, .val r1, .val r2, .val r3, .val r4, .val (.int (1 : Int32)), .val (.long jj), .second, .val (.int (1 : Int32)), .unset, .unset, .unset, .unset] [])) target → Steps p.tables e below (T0.setTop (mkF m 143 #[.val (.ref pq), .val (.ref arr), .val (.long old), .second, .val (.long x), .second, .val (.long s'), .second, .val (.int ids), .val (.int fl), .val (.int b10), .val (.int (0 : Int32)), .val (.int (1 : Int32)), .val (.long jj), .second, .val (.long tt), .second, .val r1, .val r2, .val r3, .val r4, .unset, .unset, .unset, .unset, .unset, .unset, .unset, .unset] [])) target := by
  intro target kt
  obtain ⟨clz1, Arz1, qz1, Sz1, Nz1, Hz1, Gz1⟩ := id VA
  have hin2 : ¬ ((2 : Int32) < 0 ∨ clz1.slots.size ≤ ((2 : Int32)).toNatClampNeg) := inb_of Sz1 ⟨by decide, by decide⟩
  have hat2 : clz1.slots[((2 : Int32)).toNatClampNeg]? = some (.long v2) := Hz1.at hin2 rfl
  obtain ⟨clz3, Arz3, qz3, Sz3, Nz3, Hz3, Gz3⟩ := id VA
  have hin4 : ¬ ((3 : Int32) < 0 ∨ clz3.slots.size ≤ ((3 : Int32)).toNatClampNeg) := inb_of Sz3 ⟨by decide, by decide⟩
  have hat4 : clz3.slots[((3 : Int32)).toNatClampNeg]? = some (.long v3) := Hz3.at hin4 rfl
  show Steps p.tables e below (T0.setTop (mkF m 143 #[.val (.ref pq), .val (.ref arr), .val (.long old), .second, .val (.long x), .second, .val (.long s'), .second, .val (.int ids), .val (.int fl), .val (.int b10), .val (.int (0 : Int32)), .val (.int (1 : Int32)), .val (.long jj), .second, .val (.long tt), .second, .val r1, .val r2, .val r3, .val r4, .unset, .unset, .unset, .unset, .unset, .unset, .unset, .unset] [])) _
  refine XS.iload X0.here hx rfl (hb hby d3_143) rfl ?_
  refine XS.ifYes X0.here hx rfl (pc0 := 145) (pc' := 153) rfl (hb hby d3_145) rfl ((if0 _ _).trans (teq (rfl : (0 : Int32) = (0 : Int32))).1) (by decide) (by decide) ?_
  refine XS.iconst X0.here hx rfl (hb hby d3_153) ?_
  refine XS.goto X0.here hx rfl (pc0 := 154) (pc' := 158) rfl (hb hby d3_154) (by decide) (by decide) ?_
  refine XS.istore X0.here hx rfl (hb hby d3_158) rfl (l' := #[.val (.ref pq), .val (.ref arr), .val (.long old), .second, .val (.long x), .second, .val (.long s'), .second, .val (.int ids), .val (.int fl), .val (.int b10), .val (.int (0 : Int32)), .val (.int (1 : Int32)), .val (.long jj), .second, .val (.long tt), .second, .val r1, .val r2, .val r3, .val r4, .val (.int (1 : Int32)), .unset, .unset, .unset, .unset, .unset, .unset, .unset]) rfl ?_
  refine XS.iload X0.here hx rfl (hb hby d3_160) rfl ?_
  refine XS.ifNo X0.here hx rfl (hb hby d3_162) rfl ((if0 _ _).trans (teq (rfl : (0 : Int32) = (0 : Int32))).2) ?_
  refine XS.lload X0.here hx rfl (hb hby d3_165) rfl ?_
  refine XS.goto X0.here hx rfl (pc0 := 167) (pc' := 172) rfl (hb hby d3_167) (by decide) (by decide) ?_
  show Steps p.tables e below (T0.setTop (mkF m 172 #[.val (.ref pq), .val (.ref arr), .val (.long old), .second, .val (.long x), .second, .val (.long s'), .second, .val (.int ids), .val (.int fl), .val (.int b10), .val (.int (0 : Int32)), .val (.int (1 : Int32)), .val (.long jj), .second, .val (.long tt), .second, .val r1, .val r2, .val r3, .val r4, .val (.int (1 : Int32)), .unset, .unset, .unset, .unset, .unset, .unset, .unset] [(.long jj)])) _
  refine XS.lstore X0.here hx rfl (hb hby d3_172) rfl (l' := #[.val (.ref pq), .val (.ref arr), .val (.long old), .second, .val (.long x), .second, .val (.long s'), .second, .val (.int ids), .val (.int fl), .val (.int b10), .val (.int (0 : Int32)), .val (.int (1 : Int32)), .val (.long jj), .second, .val (.long tt), .second, .val r1, .val r2, .val r3, .val r4, .val (.int (1 : Int32)), .val (.long jj), .second, .unset, .unset, .unset, .unset, .unset]) rfl ?_
  refine XS.aloadN X0.here hx rfl (hb hby d3_174) rfl rfl ?_
  refine XS.iconst X0.here hx rfl (hb hby d3_175) ?_
  refine X0.laload hx (j := (2 : Int32)) (v := (.long v2)) (by rw [e0]; exact Arz1.1) (State.isArrayOf_alike hZ.alike Arz1.2.1) Arz1.2.2 hin2 hat2 (g := (mkF m 176 #[.val (.ref pq), .val (.ref arr), .val (.long old), .second, .val (.long x), .second, .val (.long s'), .second, .val (.int ids), .val (.int fl), .val (.int b10), .val (.int (0 : Int32)), .val (.int (1 : Int32)), .val (.long jj), .second, .val (.long tt), .second, .val r1, .val r2, .val r3, .val r4, .val (.int (1 : Int32)), .val (.long jj), .second, .unset, .unset, .unset, .unset, .unset] [(.int (2 : Int32)), (.ref arr)])) rfl rfl (hb hby d3_176) _ ?_
  refine XS.lconst X0.here hx rfl (hb hby d3_177) ?_
  refine XS.lcmp X0.here hx rfl (hb hby d3_178) rfl ?_
  refine XS.ifNo X0.here hx rfl (hb hby d3_179) rfl ((if0 _ _).trans (feq (fun z => hc179 ((lw_eq _ _).mp z))).1) ?_
  refine XS.iload X0.here hx rfl (hb hby d3_182) rfl ?_
  refine XS.ifNo X0.here hx rfl (hb hby d3_184) rfl ((if0 _ _).trans (feq ((by decide) : ¬ ((1 : Int32) = (0 : Int32)))).1) ?_
  show Steps p.tables e below (T0.setTop (mkF m 187 #[.val (.ref pq), .val (.ref arr), .val (.long old), .second, .val (.long x), .second, .val (.long s'), .second, .val (.int ids), .val (.int fl), .val (.int b10), .val (.int (0 : Int32)), .val (.int (1 : Int32)), .val (.long jj), .second, .val (.long tt), .second, .val r1, .val r2, .val r3, .val r4, .val (.int (1 : Int32)), .val (.long jj), .second, .unset, .unset, .unset, .unset, .unset] [])) _
  refine XS.aloadN X0.here hx rfl (hb hby d3_187) rfl rfl ?_
  refine XS.iconst X0.here hx rfl (hb hby d3_188) ?_
  refine X0.laload hx (j := (3 : Int32)) (v := (.long v3)) (by rw [e0]; exact Arz3.1) (State.isArrayOf_alike hZ.alike Arz3.2.1) Arz3.2.2 hin4 hat4 (g := (mkF m 189 #[.val (.ref pq), .val (.ref arr), .val (.long old), .second, .val (.long x), .second, .val (.long s'), .second, .val (.int ids), .val (.int fl), .val (.int b10), .val (.int (0 : Int32)), .val (.int (1 : Int32)), .val (.long jj), .second, .val (.long tt), .second, .val r1, .val r2, .val r3, .val r4, .val (.int (1 : Int32)), .val (.long jj), .second, .unset, .unset, .unset, .unset, .unset] [(.int (3 : Int32)), (.ref arr)])) rfl rfl (hb hby d3_189) _ ?_
  refine XS.lload X0.here hx rfl (hb hby d3_190) rfl ?_
  refine XS.lcmp X0.here hx rfl (hb hby d3_192) rfl ?_
  refine XS.ifNo X0.here hx rfl (hb hby d3_193) rfl ((if0 _ _).trans (teq ((lw_eq _ _).mpr hc193)).2) ?_
  refine XS.iconst X0.here hx rfl (hb hby d3_196) ?_
  refine XS.goto X0.here hx rfl (pc0 := 197) (pc' := 201) rfl (hb hby d3_197) (by decide) (by decide) ?_
  refine XS.istore X0.here hx rfl (hb hby d3_201) rfl (l' := #[.val (.ref pq), .val (.ref arr), .val (.long old), .second, .val (.long x), .second, .val (.long s'), .second, .val (.int ids), .val (.int fl), .val (.int b10), .val (.int (0 : Int32)), .val (.int (1 : Int32)), .val (.long jj), .second, .val (.long tt), .second, .val r1, .val r2, .val r3, .val r4, .val (.int (1 : Int32)), .val (.long jj), .second, .val (.int (1 : Int32)), .unset, .unset, .unset, .unset]) rfl ?_
  exact kt
set_option maxRecDepth 65536 in
set_option maxHeartbeats 40000000 in
theorem s2_01 {p : Program} {l : Launch} {e : Env} {s : State} {m : MethodId} {args : Array Value} {below : List Frame} {meth : Method} {c : Code} {T0 : State} {locs : List Loc} {cells slots : Nat} {Z : State} {a0 : Array Value} {h0 : Heap} (pq : Addr) (arr : Addr) (k : ClassId) (old : Int64) (x : Int64) (s' : Int64) (ids : Int32) (fl : Int32) (b10 : Int32) (jj : Int64) (tt : Int64) (r1 : Value) (r2 : Value) (r3 : Value) (r4 : Value) (v0 : Int64) (v1 : Int64) (v2 : Int64) (v3 : Int64)
    (X0 : Stand p l e rr_4_4_4_53 s m args below meth c T0 locs cells slots) (hx : p.tables.exec = Jvm.exec) (hZ : Z.Warmed39 s.vm) (hw : ∀ d ∈ tables_1, d.before a0 Z = true) (hby : c.code = method_4_code) (hml : c.maxLocals = 29) (hown : s.vm.findClass "com/example/keyed_work_queue/keyedworkqueue/PendingFoundPinLaw" = some m.cls) (e0 : T0.heap = h0) (hcl : cells ≤ rr_4_4_4_53.cells) (hsl : slots ≤ rr_4_4_4_53.slots) (VA : Arv Z h0 arr k .long (4 : Int32) [(.long v0), (.long v1), (.long v2), (.long v3)] (.long (0 : Int64))) :
    ∀ target, Steps p.tables e below (T0.setTop (mkF m 203 #[.val (.ref pq), .val (.ref arr), .val (.long old), .second, .val (.long x), .second, .val (.long s'), .second, .val (.int ids), .val (.int fl), .val (.int b10), .val (.int (0 : Int32)), .val (.int (1 : Int32)), .val (.long jj), .second, .val (.long tt), .second, .val r1, .val r2, .val r3, .val r4, .val (.int (1 : Int32)), .val (.long jj), .second, .val (.int (own_sm (True) v2 v3 jj)), .unset, .unset, .unset, .unset] [])) target → Steps p.tables e below (T0.setTop (mkF m 143 #[.val (.ref pq), .val (.ref arr), .val (.long old), .second, .val (.long x), .second, .val (.long s'), .second, .val (.int ids), .val (.int fl), .val (.int b10), .val (.int (0 : Int32)), .val (.int (1 : Int32)), .val (.long jj), .second, .val (.long tt), .second, .val r1, .val r2, .val r3, .val r4, .unset, .unset, .unset, .unset, .unset, .unset, .unset, .unset] [])) target := by
  intro target kt
  revert kt
  by_cases c1 : v2 = 0
  · rw [show own_sm (True) v2 v3 jj = 0 from if_neg (fun z => z.1 c1)]; exact s2_01_z pq arr k old x s' ids fl b10 jj tt r1 r2 r3 r4 v0 v1 v2 v3 X0 hx hZ hw hby hml hown e0 hcl hsl VA c1 target
  by_cases c2 : v3 = jj
  · rw [show own_sm (True) v2 v3 jj = 1 from if_pos ⟨c1, trivial, c2⟩]; exact s2_01_s pq arr k old x s' ids fl b10 jj tt r1 r2 r3 r4 v0 v1 v2 v3 X0 hx hZ hw hby hml hown e0 hcl hsl VA c1 c2 target
  · rw [show own_sm (True) v2 v3 jj = 0 from if_neg (fun z => c2 z.2.2)]; exact s2_01_d pq arr k old x s' ids fl b10 jj tt r1 r2 r3 r4 v0 v1 v2 v3 X0 hx hZ hw hby hml hown e0 hcl hsl VA c1 c2 target
theorem d3_148 : decode method_4_code 148 = .ok (.iload 12, 2) := by decide +kernel
theorem d3_150 : decode method_4_code 150 = .ok (.ifCond .ne 7, 3) := by decide +kernel
theorem d3_170 : decode method_4_code 170 = .ok (.lload 15, 2) := by decide +kernel
set_option maxRecDepth 65536 in
set_option maxHeartbeats 40000000 in
theorem s2_10_z {p : Program} {l : Launch} {e : Env} {s : State} {m : MethodId} {args : Array Value} {below : List Frame} {meth : Method} {c : Code} {T0 : State} {locs : List Loc} {cells slots : Nat} {Z : State} {a0 : Array Value} {h0 : Heap} (pq : Addr) (arr : Addr) (k : ClassId) (old : Int64) (x : Int64) (s' : Int64) (ids : Int32) (fl : Int32) (b10 : Int32) (jj : Int64) (tt : Int64) (r1 : Value) (r2 : Value) (r3 : Value) (r4 : Value) (v0 : Int64) (v1 : Int64) (v2 : Int64) (v3 : Int64)
    (X0 : Stand p l e rr_4_4_4_53 s m args below meth c T0 locs cells slots) (hx : p.tables.exec = Jvm.exec) (hZ : Z.Warmed39 s.vm) (hw : ∀ d ∈ tables_1, d.before a0 Z = true) (hby : c.code = method_4_code) (hml : c.maxLocals = 29) (hown : s.vm.findClass "com/example/keyed_work_queue/keyedworkqueue/PendingFoundPinLaw" = some m.cls) (e0 : T0.heap = h0) (hcl : cells ≤ rr_4_4_4_53.cells) (hsl : slots ≤ rr_4_4_4_53.slots) (VA : Arv Z h0 arr k .long (4 : Int32) [(.long v0), (.long v1), (.long v2), (.long v3)] (.long (0 : Int64))) (hc179 : v2 = (0 : Int64)) :
    ∀ target, Steps p.tables e below (T0.setTop (mkF m 203 #[.val (.ref pq), .val (.ref arr), .val (.long old), .second, .val (.long x), .second, .val (.long s'), .second, .val (.int ids), .val (.int fl), .val (.int b10), .val (.int (1 : Int32)), .val (.int (0 : Int32)), .val (.long jj), .second, .val (.long tt), .second, .val r1, .val r2, .val r3, .val r4, .val (.int (1 : Int32)), .val (.long tt), .second, .val (.int (0 : Int32)), .unset, .unset, .unset, .unset] [])) target → Steps p.tables e below (T0.setTop (mkF m 143 #[.val (.ref pq), .val (.ref arr), .val (.long old), .second, .val (.long x), .second, .val (.long s'), .second, .val (.int ids), .val (.int fl), .val (.int b10), .val (.int (1 : Int32)), .val (.int (0 : Int32)), .val (.long jj), .second, .val (.long tt), .second, .val r1, .val r2, .val r3, .val r4, .unset, .unset, .unset, .unset, .unset, .unset, .unset, .unset] [])) target := by
  intro target kt
  obtain ⟨clz1, Arz1, qz1, Sz1, Nz1, Hz1, Gz1⟩ := id VA
  have hin2 : ¬ ((2 : Int32) < 0 ∨ clz1.slots.size ≤ ((2 : Int32)).toNatClampNeg) := inb_of Sz1 ⟨by decide, by decide⟩
  have hat2 : clz1.slots[((2 : Int32)).toNatClampNeg]? = some (.long v2) := Hz1.at hin2 rfl
  show Steps p.tables e below (T0.setTop (mkF m 143 #[.val (.ref pq), .val (.ref arr), .val (.long old), .second, .val (.long x), .second, .val (.long s'), .second, .val (.int ids), .val (.int fl), .val (.int b10), .val (.int (1 : Int32)), .val (.int (0 : Int32)), .val (.long jj), .second, .val (.long tt), .second, .val r1, .val r2, .val r3, .val r4, .unset, .unset, .unset, .unset, .unset, .unset, .unset, .unset] [])) _
  refine XS.iload X0.here hx rfl (hb hby d3_143) rfl ?_
  refine XS.ifNo X0.here hx rfl (hb hby d3_145) rfl ((if0 _ _).trans (feq ((by decide) : ¬ ((1 : Int32) = (0 : Int32)))).1) ?_
  refine XS.iload X0.here hx rfl (hb hby d3_148) rfl ?_
  refine XS.ifNo X0.here hx rfl (hb hby d3_150) rfl ((if0 _ _).trans (teq (rfl : (0 : Int32) = (0 : Int32))).2) ?_
  refine XS.iconst X0.here hx rfl (hb hby d3_153) ?_
  refine XS.goto X0.here hx rfl (pc0 := 154) (pc' := 158) rfl (hb hby d3_154) (by decide) (by decide) ?_
  refine XS.istore X0.here hx rfl (hb hby d3_158) rfl (l' := #[.val (.ref pq), .val (.ref arr), .val (.long old), .second, .val (.long x), .second, .val (.long s'), .second, .val (.int ids), .val (.int fl), .val (.int b10), .val (.int (1 : Int32)), .val (.int (0 : Int32)), .val (.long jj), .second, .val (.long tt), .second, .val r1, .val r2, .val r3, .val r4, .val (.int (1 : Int32)), .unset, .unset, .unset, .unset, .unset, .unset, .unset]) rfl ?_
  refine XS.iload X0.here hx rfl (hb hby d3_160) rfl ?_
  refine XS.ifYes X0.here hx rfl (pc0 := 162) (pc' := 170) rfl (hb hby d3_162) rfl ((if0 _ _).trans (feq ((by decide) : ¬ ((1 : Int32) = (0 : Int32)))).2) (by decide) (by decide) ?_
  show Steps p.tables e below (T0.setTop (mkF m 170 #[.val (.ref pq), .val (.ref arr), .val (.long old), .second, .val (.long x), .second, .val (.long s'), .second, .val (.int ids), .val (.int fl), .val (.int b10), .val (.int (1 : Int32)), .val (.int (0 : Int32)), .val (.long jj), .second, .val (.long tt), .second, .val r1, .val r2, .val r3, .val r4, .val (.int (1 : Int32)), .unset, .unset, .unset, .unset, .unset, .unset, .unset] [])) _
  refine XS.lload X0.here hx rfl (hb hby d3_170) rfl ?_
  refine XS.lstore X0.here hx rfl (hb hby d3_172) rfl (l' := #[.val (.ref pq), .val (.ref arr), .val (.long old), .second, .val (.long x), .second, .val (.long s'), .second, .val (.int ids), .val (.int fl), .val (.int b10), .val (.int (1 : Int32)), .val (.int (0 : Int32)), .val (.long jj), .second, .val (.long tt), .second, .val r1, .val r2, .val r3, .val r4, .val (.int (1 : Int32)), .val (.long tt), .second, .unset, .unset, .unset, .unset, .unset]) rfl ?_
  refine XS.aloadN X0.here hx rfl (hb hby d3_174) rfl rfl ?_
  refine XS.iconst X0.here hx rfl (hb hby d3_175) ?_
  refine X0.laload hx (j := (2 : Int32)) (v := (.long v2)) (by rw [e0]; exact Arz1.1) (State.isArrayOf_alike hZ.alike Arz1.2.1) Arz1.2.2 hin2 hat2 (g := (mkF m 176 #[.val (.ref pq), .val (.ref arr), .val (.long old), .second, .val (.long x), .second, .val (.long s'), .second, .val (.int ids), .val (.int fl), .val (.int b10), .val (.int (1 : Int32)), .val (.int (0 : Int32)), .val (.long jj), .second, .val (.long tt), .second, .val r1, .val r2, .val r3, .val r4, .val (.int (1 : Int32)), .val (.long tt), .second, .unset, .unset, .unset, .unset, .unset] [(.int (2 : Int32)), (.ref arr)])) rfl rfl (hb hby d3_176) _ ?_
  refine XS.lconst X0.here hx rfl (hb hby d3_177) ?_
  refine XS.lcmp X0.here hx rfl (hb hby d3_178) rfl ?_
  refine XS.ifYes X0.here hx rfl (pc0 := 179) (pc' := 200) rfl (hb hby d3_179) rfl ((if0 _ _).trans (teq ((lw_eq _ _).mpr hc179)).1) (by decide) (by decide) ?_
  refine XS.iconst X0.here hx rfl (hb hby d3_200) ?_
  show Steps p.tables e below (T0.setTop (mkF m 201 #[.val (.ref pq), .val (.ref arr), .val (.long old), .second, .val (.long x), .second, .val (.long s'), .second, .val (.int ids), .val (.int fl), .val (.int b10), .val (.int (1 : Int32)), .val (.int (0 : Int32)), .val (.long jj), .second, .val (.long tt), .second, .val r1, .val r2, .val r3, .val r4, .val (.int (1 : Int32)), .val (.long tt), .second, .unset, .unset, .unset, .unset, .unset] [(.int (0 : Int32))])) _
  refine XS.istore X0.here hx rfl (hb hby d3_201) rfl (l' := #[.val (.ref pq), .val (.ref arr), .val (.long old), .second, .val (.long x), .second, .val (.long s'), .second, .val (.int ids), .val (.int fl), .val (.int b10), .val (.int (1 : Int32)), .val (.int (0 : Int32)), .val (.long jj), .second, .val (.long tt), .second, .val r1, .val r2, .val r3, .val r4, .val (.int (1 : Int32)), .val (.long tt), .second, .val (.int (0 : Int32)), .unset, .unset, .unset, .unset]) rfl ?_
  exact kt
set_option maxRecDepth 65536 in
set_option maxHeartbeats 40000000 in
theorem s2_10_d {p : Program} {l : Launch} {e : Env} {s : State} {m : MethodId} {args : Array Value} {below : List Frame} {meth : Method} {c : Code} {T0 : State} {locs : List Loc} {cells slots : Nat} {Z : State} {a0 : Array Value} {h0 : Heap} (pq : Addr) (arr : Addr) (k : ClassId) (old : Int64) (x : Int64) (s' : Int64) (ids : Int32) (fl : Int32) (b10 : Int32) (jj : Int64) (tt : Int64) (r1 : Value) (r2 : Value) (r3 : Value) (r4 : Value) (v0 : Int64) (v1 : Int64) (v2 : Int64) (v3 : Int64)
    (X0 : Stand p l e rr_4_4_4_53 s m args below meth c T0 locs cells slots) (hx : p.tables.exec = Jvm.exec) (hZ : Z.Warmed39 s.vm) (hw : ∀ d ∈ tables_1, d.before a0 Z = true) (hby : c.code = method_4_code) (hml : c.maxLocals = 29) (hown : s.vm.findClass "com/example/keyed_work_queue/keyedworkqueue/PendingFoundPinLaw" = some m.cls) (e0 : T0.heap = h0) (hcl : cells ≤ rr_4_4_4_53.cells) (hsl : slots ≤ rr_4_4_4_53.slots) (VA : Arv Z h0 arr k .long (4 : Int32) [(.long v0), (.long v1), (.long v2), (.long v3)] (.long (0 : Int64))) (hc179 : ¬ (v2 = (0 : Int64))) (hc193 : ¬ (v3 = tt)) :
    ∀ target, Steps p.tables e below (T0.setTop (mkF m 203 #[.val (.ref pq), .val (.ref arr), .val (.long old), .second, .val (.long x), .second, .val (.long s'), .second, .val (.int ids), .val (.int fl), .val (.int b10), .val (.int (1 : Int32)), .val (.int (0 : Int32)), .val (.long jj), .second, .val (.long tt), .second, .val r1, .val r2, .val r3, .val r4, .val (.int (1 : Int32)), .val (.long tt), .second, .val (.int (0 : Int32)), .unset, .unset, .unset, .unset] [])) target → Steps p.tables e below (T0.setTop (mkF m 143 #[.val (.ref pq), .val (.ref arr), .val (.long old), .second, .val (.long x), .second, .val (.long s'), .second, .val (.int ids), .val (.int fl), .val (.int b10), .val (.int (1 : Int32)), .val (.int (0 : Int32)), .val (.long jj), .second, .val (.long tt), .second, .val r1, .val r2, .val r3, .val r4, .unset, .unset, .unset, .unset, .unset, .unset, .unset, .unset] [])) target := by
  intro target kt
  obtain ⟨clz1, Arz1, qz1, Sz1, Nz1, Hz1, Gz1⟩ := id VA
  have hin2 : ¬ ((2 : Int32) < 0 ∨ clz1.slots.size ≤ ((2 : Int32)).toNatClampNeg) := inb_of Sz1 ⟨by decide, by decide⟩
  have hat2 : clz1.slots[((2 : Int32)).toNatClampNeg]? = some (.long v2) := Hz1.at hin2 rfl
  obtain ⟨clz3, Arz3, qz3, Sz3, Nz3, Hz3, Gz3⟩ := id VA
  have hin4 : ¬ ((3 : Int32) < 0 ∨ clz3.slots.size ≤ ((3 : Int32)).toNatClampNeg) := inb_of Sz3 ⟨by decide, by decide⟩
  have hat4 : clz3.slots[((3 : Int32)).toNatClampNeg]? = some (.long v3) := Hz3.at hin4 rfl
  show Steps p.tables e below (T0.setTop (mkF m 143 #[.val (.ref pq), .val (.ref arr), .val (.long old), .second, .val (.long x), .second, .val (.long s'), .second, .val (.int ids), .val (.int fl), .val (.int b10), .val (.int (1 : Int32)), .val (.int (0 : Int32)), .val (.long jj), .second, .val (.long tt), .second, .val r1, .val r2, .val r3, .val r4, .unset, .unset, .unset, .unset, .unset, .unset, .unset, .unset] [])) _
  refine XS.iload X0.here hx rfl (hb hby d3_143) rfl ?_
  refine XS.ifNo X0.here hx rfl (hb hby d3_145) rfl ((if0 _ _).trans (feq ((by decide) : ¬ ((1 : Int32) = (0 : Int32)))).1) ?_
  refine XS.iload X0.here hx rfl (hb hby d3_148) rfl ?_
  refine XS.ifNo X0.here hx rfl (hb hby d3_150) rfl ((if0 _ _).trans (teq (rfl : (0 : Int32) = (0 : Int32))).2) ?_
  refine XS.iconst X0.here hx rfl (hb hby d3_153) ?_
  refine XS.goto X0.here hx rfl (pc0 := 154) (pc' := 158) rfl (hb hby d3_154) (by decide) (by decide) ?_
  refine XS.istore X0.here hx rfl (hb hby d3_158) rfl (l' := #[.val (.ref pq), .val (.ref arr), .val (.long old), .second, .val (.long x), .second, .val (.long s'), .second, .val (.int ids), .val (.int fl), .val (.int b10), .val (.int (1 : Int32)), .val (.int (0 : Int32)), .val (.long jj), .second, .val (.long tt), .second, .val r1, .val r2, .val r3, .val r4, .val (.int (1 : Int32)), .unset, .unset, .unset, .unset, .unset, .unset, .unset]) rfl ?_
  refine XS.iload X0.here hx rfl (hb hby d3_160) rfl ?_
  refine XS.ifYes X0.here hx rfl (pc0 := 162) (pc' := 170) rfl (hb hby d3_162) rfl ((if0 _ _).trans (feq ((by decide) : ¬ ((1 : Int32) = (0 : Int32)))).2) (by decide) (by decide) ?_
  show Steps p.tables e below (T0.setTop (mkF m 170 #[.val (.ref pq), .val (.ref arr), .val (.long old), .second, .val (.long x), .second, .val (.long s'), .second, .val (.int ids), .val (.int fl), .val (.int b10), .val (.int (1 : Int32)), .val (.int (0 : Int32)), .val (.long jj), .second, .val (.long tt), .second, .val r1, .val r2, .val r3, .val r4, .val (.int (1 : Int32)), .unset, .unset, .unset, .unset, .unset, .unset, .unset] [])) _
  refine XS.lload X0.here hx rfl (hb hby d3_170) rfl ?_
  refine XS.lstore X0.here hx rfl (hb hby d3_172) rfl (l' := #[.val (.ref pq), .val (.ref arr), .val (.long old), .second, .val (.long x), .second, .val (.long s'), .second, .val (.int ids), .val (.int fl), .val (.int b10), .val (.int (1 : Int32)), .val (.int (0 : Int32)), .val (.long jj), .second, .val (.long tt), .second, .val r1, .val r2, .val r3, .val r4, .val (.int (1 : Int32)), .val (.long tt), .second, .unset, .unset, .unset, .unset, .unset]) rfl ?_
  refine XS.aloadN X0.here hx rfl (hb hby d3_174) rfl rfl ?_
  refine XS.iconst X0.here hx rfl (hb hby d3_175) ?_
  refine X0.laload hx (j := (2 : Int32)) (v := (.long v2)) (by rw [e0]; exact Arz1.1) (State.isArrayOf_alike hZ.alike Arz1.2.1) Arz1.2.2 hin2 hat2 (g := (mkF m 176 #[.val (.ref pq), .val (.ref arr), .val (.long old), .second, .val (.long x), .second, .val (.long s'), .second, .val (.int ids), .val (.int fl), .val (.int b10), .val (.int (1 : Int32)), .val (.int (0 : Int32)), .val (.long jj), .second, .val (.long tt), .second, .val r1, .val r2, .val r3, .val r4, .val (.int (1 : Int32)), .val (.long tt), .second, .unset, .unset, .unset, .unset, .unset] [(.int (2 : Int32)), (.ref arr)])) rfl rfl (hb hby d3_176) _ ?_
  refine XS.lconst X0.here hx rfl (hb hby d3_177) ?_
  refine XS.lcmp X0.here hx rfl (hb hby d3_178) rfl ?_
  refine XS.ifNo X0.here hx rfl (hb hby d3_179) rfl ((if0 _ _).trans (feq (fun z => hc179 ((lw_eq _ _).mp z))).1) ?_
  refine XS.iload X0.here hx rfl (hb hby d3_182) rfl ?_
  show Steps p.tables e below (T0.setTop (mkF m 184 #[.val (.ref pq), .val (.ref arr), .val (.long old), .second, .val (.long x), .second, .val (.long s'), .second, .val (.int ids), .val (.int fl), .val (.int b10), .val (.int (1 : Int32)), .val (.int (0 : Int32)), .val (.long jj), .second, .val (.long tt), .second, .val r1, .val r2, .val r3, .val r4, .val (.int (1 : Int32)), .val (.long tt), .second, .unset, .unset, .unset, .unset, .unset] [(.int (1 : Int32))])) _
  refine XS.ifNo X0.here hx rfl (hb hby d3_184) rfl ((if0 _ _).trans (feq ((by decide) : ¬ ((1 : Int32) = (0 : Int32)))).1) ?_
  refine XS.aloadN X0.here hx rfl (hb hby d3_187) rfl rfl ?_
  refine XS.iconst X0.here hx rfl (hb hby d3_188) ?_
  refine X0.laload hx (j := (3 : Int32)) (v := (.long v3)) (by rw [e0]; exact Arz3.1) (State.isArrayOf_alike hZ.alike Arz3.2.1) Arz3.2.2 hin4 hat4 (g := (mkF m 189 #[.val (.ref pq), .val (.ref arr), .val (.long old), .second, .val (.long x), .second, .val (.long s'), .second, .val (.int ids), .val (.int fl), .val (.int b10), .val (.int (1 : Int32)), .val (.int (0 : Int32)), .val (.long jj), .second, .val (.long tt), .second, .val r1, .val r2, .val r3, .val r4, .val (.int (1 : Int32)), .val (.long tt), .second, .unset, .unset, .unset, .unset, .unset] [(.int (3 : Int32)), (.ref arr)])) rfl rfl (hb hby d3_189) _ ?_
  refine XS.lload X0.here hx rfl (hb hby d3_190) rfl ?_
  refine XS.lcmp X0.here hx rfl (hb hby d3_192) rfl ?_
  refine XS.ifYes X0.here hx rfl (pc0 := 193) (pc' := 200) rfl (hb hby d3_193) rfl ((if0 _ _).trans (feq (fun z => hc193 ((lw_eq _ _).mp z))).2) (by decide) (by decide) ?_
  refine XS.iconst X0.here hx rfl (hb hby d3_200) ?_
  refine XS.istore X0.here hx rfl (hb hby d3_201) rfl (l' := #[.val (.ref pq), .val (.ref arr), .val (.long old), .second, .val (.long x), .second, .val (.long s'), .second, .val (.int ids), .val (.int fl), .val (.int b10), .val (.int (1 : Int32)), .val (.int (0 : Int32)), .val (.long jj), .second, .val (.long tt), .second, .val r1, .val r2, .val r3, .val r4, .val (.int (1 : Int32)), .val (.long tt), .second, .val (.int (0 : Int32)), .unset, .unset, .unset, .unset]) rfl ?_
  exact kt
set_option maxRecDepth 65536 in
set_option maxHeartbeats 40000000 in
theorem s2_10_s {p : Program} {l : Launch} {e : Env} {s : State} {m : MethodId} {args : Array Value} {below : List Frame} {meth : Method} {c : Code} {T0 : State} {locs : List Loc} {cells slots : Nat} {Z : State} {a0 : Array Value} {h0 : Heap} (pq : Addr) (arr : Addr) (k : ClassId) (old : Int64) (x : Int64) (s' : Int64) (ids : Int32) (fl : Int32) (b10 : Int32) (jj : Int64) (tt : Int64) (r1 : Value) (r2 : Value) (r3 : Value) (r4 : Value) (v0 : Int64) (v1 : Int64) (v2 : Int64) (v3 : Int64)
    (X0 : Stand p l e rr_4_4_4_53 s m args below meth c T0 locs cells slots) (hx : p.tables.exec = Jvm.exec) (hZ : Z.Warmed39 s.vm) (hw : ∀ d ∈ tables_1, d.before a0 Z = true) (hby : c.code = method_4_code) (hml : c.maxLocals = 29) (hown : s.vm.findClass "com/example/keyed_work_queue/keyedworkqueue/PendingFoundPinLaw" = some m.cls) (e0 : T0.heap = h0) (hcl : cells ≤ rr_4_4_4_53.cells) (hsl : slots ≤ rr_4_4_4_53.slots) (VA : Arv Z h0 arr k .long (4 : Int32) [(.long v0), (.long v1), (.long v2), (.long v3)] (.long (0 : Int64))) (hc179 : ¬ (v2 = (0 : Int64))) (hc193 : v3 = tt) :
    ∀ target, Steps p.tables e below (T0.setTop (mkF m 203 #[.val (.ref pq), .val (.ref arr), .val (.long old), .second, .val (.long x), .second, .val (.long s'), .second, .val (.int ids), .val (.int fl), .val (.int b10), .val (.int (1 : Int32)), .val (.int (0 : Int32)), .val (.long jj), .second, .val (.long tt), .second, .val r1, .val r2, .val r3, .val r4, .val (.int (1 : Int32)), .val (.long tt), .second, .val (.int (1 : Int32)), .unset, .unset, .unset, .unset] [])) target → Steps p.tables e below (T0.setTop (mkF m 143 #[.val (.ref pq), .val (.ref arr), .val (.long old), .second, .val (.long x), .second, .val (.long s'), .second, .val (.int ids), .val (.int fl), .val (.int b10), .val (.int (1 : Int32)), .val (.int (0 : Int32)), .val (.long jj), .second, .val (.long tt), .second, .val r1, .val r2, .val r3, .val r4, .unset, .unset, .unset, .unset, .unset, .unset, .unset, .unset] [])) target := by
  intro target kt
  obtain ⟨clz1, Arz1, qz1, Sz1, Nz1, Hz1, Gz1⟩ := id VA
  have hin2 : ¬ ((2 : Int32) < 0 ∨ clz1.slots.size ≤ ((2 : Int32)).toNatClampNeg) := inb_of Sz1 ⟨by decide, by decide⟩
  have hat2 : clz1.slots[((2 : Int32)).toNatClampNeg]? = some (.long v2) := Hz1.at hin2 rfl
  obtain ⟨clz3, Arz3, qz3, Sz3, Nz3, Hz3, Gz3⟩ := id VA
  have hin4 : ¬ ((3 : Int32) < 0 ∨ clz3.slots.size ≤ ((3 : Int32)).toNatClampNeg) := inb_of Sz3 ⟨by decide, by decide⟩
  have hat4 : clz3.slots[((3 : Int32)).toNatClampNeg]? = some (.long v3) := Hz3.at hin4 rfl
  show Steps p.tables e below (T0.setTop (mkF m 143 #[.val (.ref pq), .val (.ref arr), .val (.long old), .second, .val (.long x), .second, .val (.long s'), .second, .val (.int ids), .val (.int fl), .val (.int b10), .val (.int (1 : Int32)), .val (.int (0 : Int32)), .val (.long jj), .second, .val (.long tt), .second, .val r1, .val r2, .val r3, .val r4, .unset, .unset, .unset, .unset, .unset, .unset, .unset, .unset] [])) _
  refine XS.iload X0.here hx rfl (hb hby d3_143) rfl ?_
  refine XS.ifNo X0.here hx rfl (hb hby d3_145) rfl ((if0 _ _).trans (feq ((by decide) : ¬ ((1 : Int32) = (0 : Int32)))).1) ?_
  refine XS.iload X0.here hx rfl (hb hby d3_148) rfl ?_
  refine XS.ifNo X0.here hx rfl (hb hby d3_150) rfl ((if0 _ _).trans (teq (rfl : (0 : Int32) = (0 : Int32))).2) ?_
  refine XS.iconst X0.here hx rfl (hb hby d3_153) ?_
  refine XS.goto X0.here hx rfl (pc0 := 154) (pc' := 158) rfl (hb hby d3_154) (by decide) (by decide) ?_
  refine XS.istore X0.here hx rfl (hb hby d3_158) rfl (l' := #[.val (.ref pq), .val (.ref arr), .val (.long old), .second, .val (.long x), .second, .val (.long s'), .second, .val (.int ids), .val (.int fl), .val (.int b10), .val (.int (1 : Int32)), .val (.int (0 : Int32)), .val (.long jj), .second, .val (.long tt), .second, .val r1, .val r2, .val r3, .val r4, .val (.int (1 : Int32)), .unset, .unset, .unset, .unset, .unset, .unset, .unset]) rfl ?_
  refine XS.iload X0.here hx rfl (hb hby d3_160) rfl ?_
  refine XS.ifYes X0.here hx rfl (pc0 := 162) (pc' := 170) rfl (hb hby d3_162) rfl ((if0 _ _).trans (feq ((by decide) : ¬ ((1 : Int32) = (0 : Int32)))).2) (by decide) (by decide) ?_
  show Steps p.tables e below (T0.setTop (mkF m 170 #[.val (.ref pq), .val (.ref arr), .val (.long old), .second, .val (.long x), .second, .val (.long s'), .second, .val (.int ids), .val (.int fl), .val (.int b10), .val (.int (1 : Int32)), .val (.int (0 : Int32)), .val (.long jj), .second, .val (.long tt), .second, .val r1, .val r2, .val r3, .val r4, .val (.int (1 : Int32)), .unset, .unset, .unset, .unset, .unset, .unset, .unset] [])) _
  refine XS.lload X0.here hx rfl (hb hby d3_170) rfl ?_
  refine XS.lstore X0.here hx rfl (hb hby d3_172) rfl (l' := #[.val (.ref pq), .val (.ref arr), .val (.long old), .second, .val (.long x), .second, .val (.long s'), .second, .val (.int ids), .val (.int fl), .val (.int b10), .val (.int (1 : Int32)), .val (.int (0 : Int32)), .val (.long jj), .second, .val (.long tt), .second, .val r1, .val r2, .val r3, .val r4, .val (.int (1 : Int32)), .val (.long tt), .second, .unset, .unset, .unset, .unset, .unset]) rfl ?_
  refine XS.aloadN X0.here hx rfl (hb hby d3_174) rfl rfl ?_
  refine XS.iconst X0.here hx rfl (hb hby d3_175) ?_
  refine X0.laload hx (j := (2 : Int32)) (v := (.long v2)) (by rw [e0]; exact Arz1.1) (State.isArrayOf_alike hZ.alike Arz1.2.1) Arz1.2.2 hin2 hat2 (g := (mkF m 176 #[.val (.ref pq), .val (.ref arr), .val (.long old), .second, .val (.long x), .second, .val (.long s'), .second, .val (.int ids), .val (.int fl), .val (.int b10), .val (.int (1 : Int32)), .val (.int (0 : Int32)), .val (.long jj), .second, .val (.long tt), .second, .val r1, .val r2, .val r3, .val r4, .val (.int (1 : Int32)), .val (.long tt), .second, .unset, .unset, .unset, .unset, .unset] [(.int (2 : Int32)), (.ref arr)])) rfl rfl (hb hby d3_176) _ ?_
  refine XS.lconst X0.here hx rfl (hb hby d3_177) ?_
  refine XS.lcmp X0.here hx rfl (hb hby d3_178) rfl ?_
  refine XS.ifNo X0.here hx rfl (hb hby d3_179) rfl ((if0 _ _).trans (feq (fun z => hc179 ((lw_eq _ _).mp z))).1) ?_
  refine XS.iload X0.here hx rfl (hb hby d3_182) rfl ?_
  show Steps p.tables e below (T0.setTop (mkF m 184 #[.val (.ref pq), .val (.ref arr), .val (.long old), .second, .val (.long x), .second, .val (.long s'), .second, .val (.int ids), .val (.int fl), .val (.int b10), .val (.int (1 : Int32)), .val (.int (0 : Int32)), .val (.long jj), .second, .val (.long tt), .second, .val r1, .val r2, .val r3, .val r4, .val (.int (1 : Int32)), .val (.long tt), .second, .unset, .unset, .unset, .unset, .unset] [(.int (1 : Int32))])) _
  refine XS.ifNo X0.here hx rfl (hb hby d3_184) rfl ((if0 _ _).trans (feq ((by decide) : ¬ ((1 : Int32) = (0 : Int32)))).1) ?_
  refine XS.aloadN X0.here hx rfl (hb hby d3_187) rfl rfl ?_
  refine XS.iconst X0.here hx rfl (hb hby d3_188) ?_
  refine X0.laload hx (j := (3 : Int32)) (v := (.long v3)) (by rw [e0]; exact Arz3.1) (State.isArrayOf_alike hZ.alike Arz3.2.1) Arz3.2.2 hin4 hat4 (g := (mkF m 189 #[.val (.ref pq), .val (.ref arr), .val (.long old), .second, .val (.long x), .second, .val (.long s'), .second, .val (.int ids), .val (.int fl), .val (.int b10), .val (.int (1 : Int32)), .val (.int (0 : Int32)), .val (.long jj), .second, .val (.long tt), .second, .val r1, .val r2, .val r3, .val r4, .val (.int (1 : Int32)), .val (.long tt), .second, .unset, .unset, .unset, .unset, .unset] [(.int (3 : Int32)), (.ref arr)])) rfl rfl (hb hby d3_189) _ ?_
  refine XS.lload X0.here hx rfl (hb hby d3_190) rfl ?_
  refine XS.lcmp X0.here hx rfl (hb hby d3_192) rfl ?_
  refine XS.ifNo X0.here hx rfl (hb hby d3_193) rfl ((if0 _ _).trans (teq ((lw_eq _ _).mpr hc193)).2) ?_
  refine XS.iconst X0.here hx rfl (hb hby d3_196) ?_
  refine XS.goto X0.here hx rfl (pc0 := 197) (pc' := 201) rfl (hb hby d3_197) (by decide) (by decide) ?_
  show Steps p.tables e below (T0.setTop (mkF m 201 #[.val (.ref pq), .val (.ref arr), .val (.long old), .second, .val (.long x), .second, .val (.long s'), .second, .val (.int ids), .val (.int fl), .val (.int b10), .val (.int (1 : Int32)), .val (.int (0 : Int32)), .val (.long jj), .second, .val (.long tt), .second, .val r1, .val r2, .val r3, .val r4, .val (.int (1 : Int32)), .val (.long tt), .second, .unset, .unset, .unset, .unset, .unset] [(.int (1 : Int32))])) _
  refine XS.istore X0.here hx rfl (hb hby d3_201) rfl (l' := #[.val (.ref pq), .val (.ref arr), .val (.long old), .second, .val (.long x), .second, .val (.long s'), .second, .val (.int ids), .val (.int fl), .val (.int b10), .val (.int (1 : Int32)), .val (.int (0 : Int32)), .val (.long jj), .second, .val (.long tt), .second, .val r1, .val r2, .val r3, .val r4, .val (.int (1 : Int32)), .val (.long tt), .second, .val (.int (1 : Int32)), .unset, .unset, .unset, .unset]) rfl ?_
  exact kt
set_option maxRecDepth 65536 in
set_option maxHeartbeats 40000000 in
theorem s2_10 {p : Program} {l : Launch} {e : Env} {s : State} {m : MethodId} {args : Array Value} {below : List Frame} {meth : Method} {c : Code} {T0 : State} {locs : List Loc} {cells slots : Nat} {Z : State} {a0 : Array Value} {h0 : Heap} (pq : Addr) (arr : Addr) (k : ClassId) (old : Int64) (x : Int64) (s' : Int64) (ids : Int32) (fl : Int32) (b10 : Int32) (jj : Int64) (tt : Int64) (r1 : Value) (r2 : Value) (r3 : Value) (r4 : Value) (v0 : Int64) (v1 : Int64) (v2 : Int64) (v3 : Int64)
    (X0 : Stand p l e rr_4_4_4_53 s m args below meth c T0 locs cells slots) (hx : p.tables.exec = Jvm.exec) (hZ : Z.Warmed39 s.vm) (hw : ∀ d ∈ tables_1, d.before a0 Z = true) (hby : c.code = method_4_code) (hml : c.maxLocals = 29) (hown : s.vm.findClass "com/example/keyed_work_queue/keyedworkqueue/PendingFoundPinLaw" = some m.cls) (e0 : T0.heap = h0) (hcl : cells ≤ rr_4_4_4_53.cells) (hsl : slots ≤ rr_4_4_4_53.slots) (VA : Arv Z h0 arr k .long (4 : Int32) [(.long v0), (.long v1), (.long v2), (.long v3)] (.long (0 : Int64))) :
    ∀ target, Steps p.tables e below (T0.setTop (mkF m 203 #[.val (.ref pq), .val (.ref arr), .val (.long old), .second, .val (.long x), .second, .val (.long s'), .second, .val (.int ids), .val (.int fl), .val (.int b10), .val (.int (1 : Int32)), .val (.int (0 : Int32)), .val (.long jj), .second, .val (.long tt), .second, .val r1, .val r2, .val r3, .val r4, .val (.int (1 : Int32)), .val (.long tt), .second, .val (.int (own_sm (True) v2 v3 tt)), .unset, .unset, .unset, .unset] [])) target → Steps p.tables e below (T0.setTop (mkF m 143 #[.val (.ref pq), .val (.ref arr), .val (.long old), .second, .val (.long x), .second, .val (.long s'), .second, .val (.int ids), .val (.int fl), .val (.int b10), .val (.int (1 : Int32)), .val (.int (0 : Int32)), .val (.long jj), .second, .val (.long tt), .second, .val r1, .val r2, .val r3, .val r4, .unset, .unset, .unset, .unset, .unset, .unset, .unset, .unset] [])) target := by
  intro target kt
  revert kt
  by_cases c1 : v2 = 0
  · rw [show own_sm (True) v2 v3 tt = 0 from if_neg (fun z => z.1 c1)]; exact s2_10_z pq arr k old x s' ids fl b10 jj tt r1 r2 r3 r4 v0 v1 v2 v3 X0 hx hZ hw hby hml hown e0 hcl hsl VA c1 target
  by_cases c2 : v3 = tt
  · rw [show own_sm (True) v2 v3 tt = 1 from if_pos ⟨c1, trivial, c2⟩]; exact s2_10_s pq arr k old x s' ids fl b10 jj tt r1 r2 r3 r4 v0 v1 v2 v3 X0 hx hZ hw hby hml hown e0 hcl hsl VA c1 c2 target
  · rw [show own_sm (True) v2 v3 tt = 0 from if_neg (fun z => c2 z.2.2)]; exact s2_10_d pq arr k old x s' ids fl b10 jj tt r1 r2 r3 r4 v0 v1 v2 v3 X0 hx hZ hw hby hml hown e0 hcl hsl VA c1 c2 target
theorem d3_157 : decode method_4_code 157 = .ok (.iconst 0, 1) := by decide +kernel
set_option maxRecDepth 65536 in
set_option maxHeartbeats 40000000 in
theorem s2_11_z {p : Program} {l : Launch} {e : Env} {s : State} {m : MethodId} {args : Array Value} {below : List Frame} {meth : Method} {c : Code} {T0 : State} {locs : List Loc} {cells slots : Nat} {Z : State} {a0 : Array Value} {h0 : Heap} (pq : Addr) (arr : Addr) (k : ClassId) (old : Int64) (x : Int64) (s' : Int64) (ids : Int32) (fl : Int32) (b10 : Int32) (jj : Int64) (tt : Int64) (r1 : Value) (r2 : Value) (r3 : Value) (r4 : Value) (v0 : Int64) (v1 : Int64) (v2 : Int64) (v3 : Int64)
    (X0 : Stand p l e rr_4_4_4_53 s m args below meth c T0 locs cells slots) (hx : p.tables.exec = Jvm.exec) (hZ : Z.Warmed39 s.vm) (hw : ∀ d ∈ tables_1, d.before a0 Z = true) (hby : c.code = method_4_code) (hml : c.maxLocals = 29) (hown : s.vm.findClass "com/example/keyed_work_queue/keyedworkqueue/PendingFoundPinLaw" = some m.cls) (e0 : T0.heap = h0) (hcl : cells ≤ rr_4_4_4_53.cells) (hsl : slots ≤ rr_4_4_4_53.slots) (VA : Arv Z h0 arr k .long (4 : Int32) [(.long v0), (.long v1), (.long v2), (.long v3)] (.long (0 : Int64))) (hc179 : v2 = (0 : Int64)) :
    ∀ target, Steps p.tables e below (T0.setTop (mkF m 203 #[.val (.ref pq), .val (.ref arr), .val (.long old), .second, .val (.long x), .second, .val (.long s'), .second, .val (.int ids), .val (.int fl), .val (.int b10), .val (.int (1 : Int32)), .val (.int (1 : Int32)), .val (.long jj), .second, .val (.long tt), .second, .val r1, .val r2, .val r3, .val r4, .val (.int (0 : Int32)), .val (.long tt), .second, .val (.int (0 : Int32)), .unset, .unset, .unset, .unset] [])) target → Steps p.tables e below (T0.setTop (mkF m 143 #[.val (.ref pq), .val (.ref arr), .val (.long old), .second, .val (.long x), .second, .val (.long s'), .second, .val (.int ids), .val (.int fl), .val (.int b10), .val (.int (1 : Int32)), .val (.int (1 : Int32)), .val (.long jj), .second, .val (.long tt), .second, .val r1, .val r2, .val r3, .val r4, .unset, .unset, .unset, .unset, .unset, .unset, .unset, .unset] [])) target := by
  intro target kt
  obtain ⟨clz1, Arz1, qz1, Sz1, Nz1, Hz1, Gz1⟩ := id VA
  have hin2 : ¬ ((2 : Int32) < 0 ∨ clz1.slots.size ≤ ((2 : Int32)).toNatClampNeg) := inb_of Sz1 ⟨by decide, by decide⟩
  have hat2 : clz1.slots[((2 : Int32)).toNatClampNeg]? = some (.long v2) := Hz1.at hin2 rfl
  show Steps p.tables e below (T0.setTop (mkF m 143 #[.val (.ref pq), .val (.ref arr), .val (.long old), .second, .val (.long x), .second, .val (.long s'), .second, .val (.int ids), .val (.int fl), .val (.int b10), .val (.int (1 : Int32)), .val (.int (1 : Int32)), .val (.long jj), .second, .val (.long tt), .second, .val r1, .val r2, .val r3, .val r4, .unset, .unset, .unset, .unset, .unset, .unset, .unset, .unset] [])) _
  refine XS.iload X0.here hx rfl (hb hby d3_143) rfl ?_
  refine XS.ifNo X0.here hx rfl (hb hby d3_145) rfl ((if0 _ _).trans (feq ((by decide) : ¬ ((1 : Int32) = (0 : Int32)))).1) ?_
  refine XS.iload X0.here hx rfl (hb hby d3_148) rfl ?_
  refine XS.ifYes X0.here hx rfl (pc0 := 150) (pc' := 157) rfl (hb hby d3_150) rfl ((if0 _ _).trans (feq ((by decide) : ¬ ((1 : Int32) = (0 : Int32)))).2) (by decide) (by decide) ?_
  refine XS.iconst X0.here hx rfl (hb hby d3_157) ?_
  refine XS.istore X0.here hx rfl (hb hby d3_158) rfl (l' := #[.val (.ref pq), .val (.ref arr), .val (.long old), .second, .val (.long x), .second, .val (.long s'), .second, .val (.int ids), .val (.int fl), .val (.int b10), .val (.int (1 : Int32)), .val (.int (1 : Int32)), .val (.long jj), .second, .val (.long tt), .second, .val r1, .val r2, .val r3, .val r4, .val (.int (0 : Int32)), .unset, .unset, .unset, .unset, .unset, .unset, .unset]) rfl ?_
  refine XS.iload X0.here hx rfl (hb hby d3_160) rfl ?_
  refine XS.ifYes X0.here hx rfl (pc0 := 162) (pc' := 170) rfl (hb hby d3_162) rfl ((if0 _ _).trans (feq ((by decide) : ¬ ((1 : Int32) = (0 : Int32)))).2) (by decide) (by decide) ?_
  refine XS.lload X0.here hx rfl (hb hby d3_170) rfl ?_
  show Steps p.tables e below (T0.setTop (mkF m 172 #[.val (.ref pq), .val (.ref arr), .val (.long old), .second, .val (.long x), .second, .val (.long s'), .second, .val (.int ids), .val (.int fl), .val (.int b10), .val (.int (1 : Int32)), .val (.int (1 : Int32)), .val (.long jj), .second, .val (.long tt), .second, .val r1, .val r2, .val r3, .val r4, .val (.int (0 : Int32)), .unset, .unset, .unset, .unset, .unset, .unset, .unset] [(.long tt)])) _
  refine XS.lstore X0.here hx rfl (hb hby d3_172) rfl (l' := #[.val (.ref pq), .val (.ref arr), .val (.long old), .second, .val (.long x), .second, .val (.long s'), .second, .val (.int ids), .val (.int fl), .val (.int b10), .val (.int (1 : Int32)), .val (.int (1 : Int32)), .val (.long jj), .second, .val (.long tt), .second, .val r1, .val r2, .val r3, .val r4, .val (.int (0 : Int32)), .val (.long tt), .second, .unset, .unset, .unset, .unset, .unset]) rfl ?_
  refine XS.aloadN X0.here hx rfl (hb hby d3_174) rfl rfl ?_
  refine XS.iconst X0.here hx rfl (hb hby d3_175) ?_
  refine X0.laload hx (j := (2 : Int32)) (v := (.long v2)) (by rw [e0]; exact Arz1.1) (State.isArrayOf_alike hZ.alike Arz1.2.1) Arz1.2.2 hin2 hat2 (g := (mkF m 176 #[.val (.ref pq), .val (.ref arr), .val (.long old), .second, .val (.long x), .second, .val (.long s'), .second, .val (.int ids), .val (.int fl), .val (.int b10), .val (.int (1 : Int32)), .val (.int (1 : Int32)), .val (.long jj), .second, .val (.long tt), .second, .val r1, .val r2, .val r3, .val r4, .val (.int (0 : Int32)), .val (.long tt), .second, .unset, .unset, .unset, .unset, .unset] [(.int (2 : Int32)), (.ref arr)])) rfl rfl (hb hby d3_176) _ ?_
  refine XS.lconst X0.here hx rfl (hb hby d3_177) ?_
  refine XS.lcmp X0.here hx rfl (hb hby d3_178) rfl ?_
  refine XS.ifYes X0.here hx rfl (pc0 := 179) (pc' := 200) rfl (hb hby d3_179) rfl ((if0 _ _).trans (teq ((lw_eq _ _).mpr hc179)).1) (by decide) (by decide) ?_
  refine XS.iconst X0.here hx rfl (hb hby d3_200) ?_
  refine XS.istore X0.here hx rfl (hb hby d3_201) rfl (l' := #[.val (.ref pq), .val (.ref arr), .val (.long old), .second, .val (.long x), .second, .val (.long s'), .second, .val (.int ids), .val (.int fl), .val (.int b10), .val (.int (1 : Int32)), .val (.int (1 : Int32)), .val (.long jj), .second, .val (.long tt), .second, .val r1, .val r2, .val r3, .val r4, .val (.int (0 : Int32)), .val (.long tt), .second, .val (.int (0 : Int32)), .unset, .unset, .unset, .unset]) rfl ?_
  exact kt
set_option maxRecDepth 65536 in
set_option maxHeartbeats 40000000 in
theorem s2_11_a {p : Program} {l : Launch} {e : Env} {s : State} {m : MethodId} {args : Array Value} {below : List Frame} {meth : Method} {c : Code} {T0 : State} {locs : List Loc} {cells slots : Nat} {Z : State} {a0 : Array Value} {h0 : Heap} (pq : Addr) (arr : Addr) (k : ClassId) (old : Int64) (x : Int64) (s' : Int64) (ids : Int32) (fl : Int32) (b10 : Int32) (jj : Int64) (tt : Int64) (r1 : Value) (r2 : Value) (r3 : Value) (r4 : Value) (v0 : Int64) (v1 : Int64) (v2 : Int64) (v3 : Int64)
    (X0 : Stand p l e rr_4_4_4_53 s m args below meth c T0 locs cells slots) (hx : p.tables.exec = Jvm.exec) (hZ : Z.Warmed39 s.vm) (hw : ∀ d ∈ tables_1, d.before a0 Z = true) (hby : c.code = method_4_code) (hml : c.maxLocals = 29) (hown : s.vm.findClass "com/example/keyed_work_queue/keyedworkqueue/PendingFoundPinLaw" = some m.cls) (e0 : T0.heap = h0) (hcl : cells ≤ rr_4_4_4_53.cells) (hsl : slots ≤ rr_4_4_4_53.slots) (VA : Arv Z h0 arr k .long (4 : Int32) [(.long v0), (.long v1), (.long v2), (.long v3)] (.long (0 : Int64))) (hc179 : ¬ (v2 = (0 : Int64))) :
    ∀ target, Steps p.tables e below (T0.setTop (mkF m 203 #[.val (.ref pq), .val (.ref arr), .val (.long old), .second, .val (.long x), .second, .val (.long s'), .second, .val (.int ids), .val (.int fl), .val (.int b10), .val (.int (1 : Int32)), .val (.int (1 : Int32)), .val (.long jj), .second, .val (.long tt), .second, .val r1, .val r2, .val r3, .val r4, .val (.int (0 : Int32)), .val (.long tt), .second, .val (.int (0 : Int32)), .unset, .unset, .unset, .unset] [])) target → Steps p.tables e below (T0.setTop (mkF m 143 #[.val (.ref pq), .val (.ref arr), .val (.long old), .second, .val (.long x), .second, .val (.long s'), .second, .val (.int ids), .val (.int fl), .val (.int b10), .val (.int (1 : Int32)), .val (.int (1 : Int32)), .val (.long jj), .second, .val (.long tt), .second, .val r1, .val r2, .val r3, .val r4, .unset, .unset, .unset, .unset, .unset, .unset, .unset, .unset] [])) target := by
  intro target kt
  obtain ⟨clz1, Arz1, qz1, Sz1, Nz1, Hz1, Gz1⟩ := id VA
  have hin2 : ¬ ((2 : Int32) < 0 ∨ clz1.slots.size ≤ ((2 : Int32)).toNatClampNeg) := inb_of Sz1 ⟨by decide, by decide⟩
  have hat2 : clz1.slots[((2 : Int32)).toNatClampNeg]? = some (.long v2) := Hz1.at hin2 rfl
  show Steps p.tables e below (T0.setTop (mkF m 143 #[.val (.ref pq), .val (.ref arr), .val (.long old), .second, .val (.long x), .second, .val (.long s'), .second, .val (.int ids), .val (.int fl), .val (.int b10), .val (.int (1 : Int32)), .val (.int (1 : Int32)), .val (.long jj), .second, .val (.long tt), .second, .val r1, .val r2, .val r3, .val r4, .unset, .unset, .unset, .unset, .unset, .unset, .unset, .unset] [])) _
  refine XS.iload X0.here hx rfl (hb hby d3_143) rfl ?_
  refine XS.ifNo X0.here hx rfl (hb hby d3_145) rfl ((if0 _ _).trans (feq ((by decide) : ¬ ((1 : Int32) = (0 : Int32)))).1) ?_
  refine XS.iload X0.here hx rfl (hb hby d3_148) rfl ?_
  refine XS.ifYes X0.here hx rfl (pc0 := 150) (pc' := 157) rfl (hb hby d3_150) rfl ((if0 _ _).trans (feq ((by decide) : ¬ ((1 : Int32) = (0 : Int32)))).2) (by decide) (by decide) ?_
  refine XS.iconst X0.here hx rfl (hb hby d3_157) ?_
  refine XS.istore X0.here hx rfl (hb hby d3_158) rfl (l' := #[.val (.ref pq), .val (.ref arr), .val (.long old), .second, .val (.long x), .second, .val (.long s'), .second, .val (.int ids), .val (.int fl), .val (.int b10), .val (.int (1 : Int32)), .val (.int (1 : Int32)), .val (.long jj), .second, .val (.long tt), .second, .val r1, .val r2, .val r3, .val r4, .val (.int (0 : Int32)), .unset, .unset, .unset, .unset, .unset, .unset, .unset]) rfl ?_
  refine XS.iload X0.here hx rfl (hb hby d3_160) rfl ?_
  refine XS.ifYes X0.here hx rfl (pc0 := 162) (pc' := 170) rfl (hb hby d3_162) rfl ((if0 _ _).trans (feq ((by decide) : ¬ ((1 : Int32) = (0 : Int32)))).2) (by decide) (by decide) ?_
  refine XS.lload X0.here hx rfl (hb hby d3_170) rfl ?_
  show Steps p.tables e below (T0.setTop (mkF m 172 #[.val (.ref pq), .val (.ref arr), .val (.long old), .second, .val (.long x), .second, .val (.long s'), .second, .val (.int ids), .val (.int fl), .val (.int b10), .val (.int (1 : Int32)), .val (.int (1 : Int32)), .val (.long jj), .second, .val (.long tt), .second, .val r1, .val r2, .val r3, .val r4, .val (.int (0 : Int32)), .unset, .unset, .unset, .unset, .unset, .unset, .unset] [(.long tt)])) _
  refine XS.lstore X0.here hx rfl (hb hby d3_172) rfl (l' := #[.val (.ref pq), .val (.ref arr), .val (.long old), .second, .val (.long x), .second, .val (.long s'), .second, .val (.int ids), .val (.int fl), .val (.int b10), .val (.int (1 : Int32)), .val (.int (1 : Int32)), .val (.long jj), .second, .val (.long tt), .second, .val r1, .val r2, .val r3, .val r4, .val (.int (0 : Int32)), .val (.long tt), .second, .unset, .unset, .unset, .unset, .unset]) rfl ?_
  refine XS.aloadN X0.here hx rfl (hb hby d3_174) rfl rfl ?_
  refine XS.iconst X0.here hx rfl (hb hby d3_175) ?_
  refine X0.laload hx (j := (2 : Int32)) (v := (.long v2)) (by rw [e0]; exact Arz1.1) (State.isArrayOf_alike hZ.alike Arz1.2.1) Arz1.2.2 hin2 hat2 (g := (mkF m 176 #[.val (.ref pq), .val (.ref arr), .val (.long old), .second, .val (.long x), .second, .val (.long s'), .second, .val (.int ids), .val (.int fl), .val (.int b10), .val (.int (1 : Int32)), .val (.int (1 : Int32)), .val (.long jj), .second, .val (.long tt), .second, .val r1, .val r2, .val r3, .val r4, .val (.int (0 : Int32)), .val (.long tt), .second, .unset, .unset, .unset, .unset, .unset] [(.int (2 : Int32)), (.ref arr)])) rfl rfl (hb hby d3_176) _ ?_
  refine XS.lconst X0.here hx rfl (hb hby d3_177) ?_
  refine XS.lcmp X0.here hx rfl (hb hby d3_178) rfl ?_
  refine XS.ifNo X0.here hx rfl (hb hby d3_179) rfl ((if0 _ _).trans (feq (fun z => hc179 ((lw_eq _ _).mp z))).1) ?_
  refine XS.iload X0.here hx rfl (hb hby d3_182) rfl ?_
  refine XS.ifYes X0.here hx rfl (pc0 := 184) (pc' := 200) rfl (hb hby d3_184) rfl ((if0 _ _).trans (teq (rfl : (0 : Int32) = (0 : Int32))).1) (by decide) (by decide) ?_
  show Steps p.tables e below (T0.setTop (mkF m 200 #[.val (.ref pq), .val (.ref arr), .val (.long old), .second, .val (.long x), .second, .val (.long s'), .second, .val (.int ids), .val (.int fl), .val (.int b10), .val (.int (1 : Int32)), .val (.int (1 : Int32)), .val (.long jj), .second, .val (.long tt), .second, .val r1, .val r2, .val r3, .val r4, .val (.int (0 : Int32)), .val (.long tt), .second, .unset, .unset, .unset, .unset, .unset] [])) _
  refine XS.iconst X0.here hx rfl (hb hby d3_200) ?_
  refine XS.istore X0.here hx rfl (hb hby d3_201) rfl (l' := #[.val (.ref pq), .val (.ref arr), .val (.long old), .second, .val (.long x), .second, .val (.long s'), .second, .val (.int ids), .val (.int fl), .val (.int b10), .val (.int (1 : Int32)), .val (.int (1 : Int32)), .val (.long jj), .second, .val (.long tt), .second, .val r1, .val r2, .val r3, .val r4, .val (.int (0 : Int32)), .val (.long tt), .second, .val (.int (0 : Int32)), .unset, .unset, .unset, .unset]) rfl ?_
  exact kt
set_option maxRecDepth 65536 in
set_option maxHeartbeats 40000000 in
theorem s2_11 {p : Program} {l : Launch} {e : Env} {s : State} {m : MethodId} {args : Array Value} {below : List Frame} {meth : Method} {c : Code} {T0 : State} {locs : List Loc} {cells slots : Nat} {Z : State} {a0 : Array Value} {h0 : Heap} (pq : Addr) (arr : Addr) (k : ClassId) (old : Int64) (x : Int64) (s' : Int64) (ids : Int32) (fl : Int32) (b10 : Int32) (jj : Int64) (tt : Int64) (r1 : Value) (r2 : Value) (r3 : Value) (r4 : Value) (v0 : Int64) (v1 : Int64) (v2 : Int64) (v3 : Int64)
    (X0 : Stand p l e rr_4_4_4_53 s m args below meth c T0 locs cells slots) (hx : p.tables.exec = Jvm.exec) (hZ : Z.Warmed39 s.vm) (hw : ∀ d ∈ tables_1, d.before a0 Z = true) (hby : c.code = method_4_code) (hml : c.maxLocals = 29) (hown : s.vm.findClass "com/example/keyed_work_queue/keyedworkqueue/PendingFoundPinLaw" = some m.cls) (e0 : T0.heap = h0) (hcl : cells ≤ rr_4_4_4_53.cells) (hsl : slots ≤ rr_4_4_4_53.slots) (VA : Arv Z h0 arr k .long (4 : Int32) [(.long v0), (.long v1), (.long v2), (.long v3)] (.long (0 : Int64))) :
    ∀ target, Steps p.tables e below (T0.setTop (mkF m 203 #[.val (.ref pq), .val (.ref arr), .val (.long old), .second, .val (.long x), .second, .val (.long s'), .second, .val (.int ids), .val (.int fl), .val (.int b10), .val (.int (1 : Int32)), .val (.int (1 : Int32)), .val (.long jj), .second, .val (.long tt), .second, .val r1, .val r2, .val r3, .val r4, .val (.int (0 : Int32)), .val (.long tt), .second, .val (.int (own_sm (False) v2 v3 tt)), .unset, .unset, .unset, .unset] [])) target → Steps p.tables e below (T0.setTop (mkF m 143 #[.val (.ref pq), .val (.ref arr), .val (.long old), .second, .val (.long x), .second, .val (.long s'), .second, .val (.int ids), .val (.int fl), .val (.int b10), .val (.int (1 : Int32)), .val (.int (1 : Int32)), .val (.long jj), .second, .val (.long tt), .second, .val r1, .val r2, .val r3, .val r4, .unset, .unset, .unset, .unset, .unset, .unset, .unset, .unset] [])) target := by
  intro target kt
  revert kt
  by_cases c1 : v2 = 0
  · rw [show own_sm (False) v2 v3 tt = 0 from if_neg (fun z => z.1 c1)]; exact s2_11_z pq arr k old x s' ids fl b10 jj tt r1 r2 r3 r4 v0 v1 v2 v3 X0 hx hZ hw hby hml hown e0 hcl hsl VA c1 target
  · rw [show own_sm (False) v2 v3 tt = 0 from if_neg (fun z => z.2.1)]; exact s2_11_a pq arr k old x s' ids fl b10 jj tt r1 r2 r3 r4 v0 v1 v2 v3 X0 hx hZ hw hby hml hown e0 hcl hsl VA c1 target
theorem own_nmin (z : Int64) : ¬ (z < (-9223372036854775808 : Int64)) := by
  intro h
  rw [Int64.lt_iff_toInt_lt] at h
  have e : ((-9223372036854775808 : Int64)).toInt = -9223372036854775808 := by decide
  have := rng64 z
  omega
theorem d3_203 : decode method_4_code 203 = .ok (.iload 24, 2) := by decide +kernel
theorem d3_205 : decode method_4_code 205 = .ok (.ifCond .ne 64, 3) := by decide +kernel
set_option maxRecDepth 65536 in
set_option maxHeartbeats 40000000 in
theorem s3_0_k {p : Program} {l : Launch} {e : Env} {s : State} {m : MethodId} {args : Array Value} {below : List Frame} {meth : Method} {c : Code} {T0 : State} {locs : List Loc} {cells slots : Nat} {Z : State} {a0 : Array Value} {h0 : Heap} {n0 : Nat} (pq : Addr) (arr : Addr) (k : ClassId) (old : Int64) (x : Int64) (s' : Int64) (ids : Int32) (fl : Int32) (b10 : Int32) (b11 : Int32) (b12 : Int32) (jj : Int64) (tt : Int64) (r1 : Value) (r2 : Value) (r3 : Value) (r4 : Value) (v0 : Int64) (v1 : Int64) (v2 : Int64) (v3 : Int64) (b21 : Int32) (inn : Int64) (sm : Int32)
    (X0 : Stand p l e rr_4_4_4_53 s m args below meth c T0 locs cells slots) (hx : p.tables.exec = Jvm.exec) (hZ : Z.Warmed39 s.vm) (hw : ∀ d ∈ tables_1, d.before a0 Z = true) (hby : c.code = method_4_code) (hml : c.maxLocals = 29) (hown : s.vm.findClass "com/example/keyed_work_queue/keyedworkqueue/PendingFoundPinLaw" = some m.cls) (e0 : T0.heap = h0) (hcl : cells ≤ rr_4_4_4_53.cells) (hsl : slots ≤ rr_4_4_4_53.slots) (Z0 : n0 ≤ h0.size) (N0 : Fr n0 locs) (g0_arr : n0 ≤ arr) (VA : Arv Z h0 arr k .long (4 : Int32) [(.long v0), (.long v1), (.long v2), (.long v3)] (.long (0 : Int64))) (hc205 : ¬ (sm = (0 : Int32))) :
    ∃ (T' : State) (h' : Heap) (L' : List Loc) (s25 s26 s27 s28 : Slot), Stand p l e rr_4_4_4_53 s m args below meth c T' L' cells slots ∧ T'.heap = h' ∧ Fr n0 L' ∧ (Arv Z h' arr k .long (4 : Int32) [(.long v0), (.long v1), (.long v2), (.long v3)] (.long (0 : Int64)) ∧ Keep h0 h' [arr]) ∧
      ∀ target, Steps p.tables e below (T'.setTop (mkF m 269 #[.val (.ref pq), .val (.ref arr), .val (.long old), .second, .val (.long x), .second, .val (.long s'), .second, .val (.int ids), .val (.int fl), .val (.int (0 : Int32)), .val (.int b11), .val (.int b12), .val (.long jj), .second, .val (.long tt), .second, .val r1, .val r2, .val r3, .val r4, .val (.int b21), .val (.long inn), .second, .val (.int sm), s25, s26, s27, s28] [])) target → Steps p.tables e below (T0.setTop (mkF m 203 #[.val (.ref pq), .val (.ref arr), .val (.long old), .second, .val (.long x), .second, .val (.long s'), .second, .val (.int ids), .val (.int fl), .val (.int (0 : Int32)), .val (.int b11), .val (.int b12), .val (.long jj), .second, .val (.long tt), .second, .val r1, .val r2, .val r3, .val r4, .val (.int b21), .val (.long inn), .second, .val (.int sm), .unset, .unset, .unset, .unset] [])) target := by
  have kp1 : Keep h0 h0 [arr] := (Keep.refl h0 [arr])
  refine ⟨T0, _, _, (.unset), (.unset), (.unset), (.unset), X0, e0, N0, ⟨VA, kp1⟩, fun target kt => ?_⟩
  show Steps p.tables e below (T0.setTop (mkF m 203 #[.val (.ref pq), .val (.ref arr), .val (.long old), .second, .val (.long x), .second, .val (.long s'), .second, .val (.int ids), .val (.int fl), .val (.int (0 : Int32)), .val (.int b11), .val (.int b12), .val (.long jj), .second, .val (.long tt), .second, .val r1, .val r2, .val r3, .val r4, .val (.int b21), .val (.long inn), .second, .val (.int sm), .unset, .unset, .unset, .unset] [])) _
  refine XS.iload X0.here hx rfl (hb hby d3_203) rfl ?_
  refine XS.ifYes X0.here hx rfl (pc0 := 205) (pc' := 269) rfl (hb hby d3_205) rfl ((if0 _ _).trans (feq hc205).2) (by decide) (by decide) ?_
  exact kt
theorem d3_208 : decode method_4_code 208 = .ok (.lload_n 2, 1) := by decide +kernel
theorem d3_209 : decode method_4_code 209 = .ok (.lstore 25, 2) := by decide +kernel
theorem d3_211 : decode method_4_code 211 = .ok (.ldc2_w 12, 3) := by decide +kernel
theorem d3_214 : decode method_4_code 214 = .ok (.lstore 27, 2) := by decide +kernel
theorem d3_216 : decode method_4_code 216 = .ok (.iload 10, 2) := by decide +kernel
theorem d3_218 : decode method_4_code 218 = .ok (.ifCond .ne 25, 3) := by decide +kernel
theorem d3_221 : decode method_4_code 221 = .ok (.lload 4, 2) := by decide +kernel
theorem d3_223 : decode method_4_code 223 = .ok (.lload 6, 2) := by decide +kernel
theorem d3_225 : decode method_4_code 225 = .ok (.lload_n 2, 1) := by decide +kernel
theorem d3_226 : decode method_4_code 226 = .ok (.ldc2_w 12, 3) := by decide +kernel
theorem pd_7 : parseMethodDescriptor "(JJJJ)Z" = some ⟨[.long, .long, .long, .long], some .boolean⟩ := by decide +kernel
theorem d3_229 : decode method_4_code 229 = .ok (.invokestatic 30, 3) := by decide +kernel
theorem d3_232 : decode method_4_code 232 = .ok (.ifCond .eq 11, 3) := by decide +kernel
theorem d3_243 : decode method_4_code 243 = .ok (.aload_n 1, 1) := by decide +kernel
theorem d3_244 : decode method_4_code 244 = .ok (.iconst 0, 1) := by decide +kernel
theorem d3_245 : decode method_4_code 245 = .ok (.laload, 1) := by decide +kernel
theorem d3_246 : decode method_4_code 246 = .ok (.aload_n 1, 1) := by decide +kernel
theorem d3_247 : decode method_4_code 247 = .ok (.iconst 1, 1) := by decide +kernel
theorem d3_248 : decode method_4_code 248 = .ok (.laload, 1) := by decide +kernel
theorem d3_249 : decode method_4_code 249 = .ok (.lload 25, 2) := by decide +kernel
theorem d3_251 : decode method_4_code 251 = .ok (.lload 27, 2) := by decide +kernel
theorem d3_253 : decode method_4_code 253 = .ok (.invokestatic 30, 3) := by decide +kernel
theorem d3_256 : decode method_4_code 256 = .ok (.ifCond .eq 13, 3) := by decide +kernel
set_option maxRecDepth 65536 in
set_option maxHeartbeats 40000000 in
theorem s3_0_n0 {p : Program} {l : Launch} {e : Env} {s : State} {m : MethodId} {args : Array Value} {below : List Frame} {meth : Method} {c : Code} {T0 : State} {locs : List Loc} {cells slots : Nat} {Z : State} {a0 : Array Value} {h0 : Heap} {n0 : Nat} (pq : Addr) (arr : Addr) (k : ClassId) (old : Int64) (x : Int64) (s' : Int64) (ids : Int32) (fl : Int32) (b10 : Int32) (b11 : Int32) (b12 : Int32) (jj : Int64) (tt : Int64) (r1 : Value) (r2 : Value) (r3 : Value) (r4 : Value) (v0 : Int64) (v1 : Int64) (v2 : Int64) (v3 : Int64) (b21 : Int32) (inn : Int64) (sm : Int32)
    (X0 : Stand p l e rr_4_4_4_53 s m args below meth c T0 locs cells slots) (hx : p.tables.exec = Jvm.exec) (hZ : Z.Warmed39 s.vm) (hw : ∀ d ∈ tables_1, d.before a0 Z = true) (hby : c.code = method_4_code) (hml : c.maxLocals = 29) (hown : s.vm.findClass "com/example/keyed_work_queue/keyedworkqueue/PendingFoundPinLaw" = some m.cls) (e0 : T0.heap = h0) (hcl : cells ≤ rr_4_4_4_53.cells) (hsl : slots ≤ rr_4_4_4_53.slots) (Z0 : n0 ≤ h0.size) (N0 : Fr n0 locs) (g0_arr : n0 ≤ arr) (VA : Arv Z h0 arr k .long (4 : Int32) [(.long v0), (.long v1), (.long v2), (.long v3)] (.long (0 : Int64))) (hc205 : sm = (0 : Int32)) (hc232 : (if Lex x s' old (-9223372036854775808 : Int64) then (1 : Int32) else 0) = (0 : Int32)) (hc256 : (if Lex v0 v1 old (-9223372036854775808 : Int64) then (1 : Int32) else 0) = (0 : Int32)) :
    ∃ (T' : State) (h' : Heap) (L' : List Loc) (s25 s26 s27 s28 : Slot), Stand p l e rr_4_4_4_53 s m args below meth c T' L' cells slots ∧ T'.heap = h' ∧ Fr n0 L' ∧ (Arv Z h' arr k .long (4 : Int32) [(.long v0), (.long v1), (.long v2), (.long v3)] (.long (0 : Int64)) ∧ Keep h0 h' [arr]) ∧
      ∀ target, Steps p.tables e below (T'.setTop (mkF m 269 #[.val (.ref pq), .val (.ref arr), .val (.long old), .second, .val (.long x), .second, .val (.long s'), .second, .val (.int ids), .val (.int fl), .val (.int (0 : Int32)), .val (.int b11), .val (.int b12), .val (.long jj), .second, .val (.long tt), .second, .val r1, .val r2, .val r3, .val r4, .val (.int b21), .val (.long inn), .second, .val (.int sm), s25, s26, s27, s28] [])) target → Steps p.tables e below (T0.setTop (mkF m 203 #[.val (.ref pq), .val (.ref arr), .val (.long old), .second, .val (.long x), .second, .val (.long s'), .second, .val (.int ids), .val (.int fl), .val (.int (0 : Int32)), .val (.int b11), .val (.int b12), .val (.long jj), .second, .val (.long tt), .second, .val r1, .val r2, .val r3, .val r4, .val (.int b21), .val (.long inn), .second, .val (.int sm), .unset, .unset, .unset, .unset] [])) target := by
  obtain ⟨_, _, ⟨T1, L1, k1, n1⟩, -, X1, ⟨Lc1, hQ1, l1, y1, z1⟩, st1⟩ := Jvm.LawKit.callS X0 hx (y := nm_10) hown (mvT hZ (ow hw 62 rfl)) (mvT hZ (ow hw 63 rfl)) (mvT hZ (ow hw 20 rfl)) (mvT hZ (ow hw 64 rfl)) (by decide) (backOf (W := 0) (rm10 l Z a0 hw [] x s' old (-9223372036854775808 : Int64) h0 n0 Z0) hZ (ow hw 64 rfl) (ow hw 20 rfl) (by decide) (by decide)) (g := (mkF m 229 #[.val (.ref pq), .val (.ref arr), .val (.long old), .second, .val (.long x), .second, .val (.long s'), .second, .val (.int ids), .val (.int fl), .val (.int (0 : Int32)), .val (.int b11), .val (.int b12), .val (.long jj), .second, .val (.long tt), .second, .val r1, .val r2, .val r3, .val r4, .val (.int b21), .val (.long inn), .second, .val (.int sm), .val (.long old), .second, .val (.long (-9223372036854775808 : Int64)), .second] [(.long (-9223372036854775808 : Int64)), (.long old), (.long s'), (.long x)])) rfl (by rw [hml]; rfl) (argsL := [(.long x), (.long s'), (.long old), (.long (-9223372036854775808 : Int64))]) (rest := []) (lenOf pd_7 rfl) rfl (by show 2 * 0 + _ ≤ _; exact Nat.le_of_eq rfl) (hb hby d3_229) (fun _ _ => ⟨rfl, e0, hcl, hsl⟩)
  dsimp only [Pt.U, Pt.locs, Pt.cells, Pt.slots] at X1 l1 y1 z1 st1 hQ1
  subst l1 y1 z1
  obtain ⟨rfl, N1q, e1⟩ := hQ1
  have N1 := Fr.app N0 N1q
  obtain ⟨clz2, Arz2, qz2, Sz2, Nz2, Hz2, Gz2⟩ := id VA
  have hin3 : ¬ ((0 : Int32) < 0 ∨ clz2.slots.size ≤ ((0 : Int32)).toNatClampNeg) := inb_of Sz2 ⟨by decide, by decide⟩
  have hat3 : clz2.slots[((0 : Int32)).toNatClampNeg]? = some (.long v0) := Hz2.at hin3 rfl
  obtain ⟨clz4, Arz4, qz4, Sz4, Nz4, Hz4, Gz4⟩ := id VA
  have hin5 : ¬ ((1 : Int32) < 0 ∨ clz4.slots.size ≤ ((1 : Int32)).toNatClampNeg) := inb_of Sz4 ⟨by decide, by decide⟩
  have hat5 : clz4.slots[((1 : Int32)).toNatClampNeg]? = some (.long v1) := Hz4.at hin5 rfl
  obtain ⟨_, _, ⟨T6, L6, k6, n6⟩, -, X6, ⟨Lc6, hQ6, l6, y6, z6⟩, st6⟩ := Jvm.LawKit.callS X1 hx (y := nm_10) hown (mvT hZ (ow hw 62 rfl)) (mvT hZ (ow hw 63 rfl)) (mvT hZ (ow hw 20 rfl)) (mvT hZ (ow hw 64 rfl)) (by decide) (backOf (W := 0) (rm10 l Z a0 hw [] v0 v1 old (-9223372036854775808 : Int64) h0 n0 Z0) hZ (ow hw 64 rfl) (ow hw 20 rfl) (by decide) (by decide)) (g := (mkF m 253 #[.val (.ref pq), .val (.ref arr), .val (.long old), .second, .val (.long x), .second, .val (.long s'), .second, .val (.int ids), .val (.int fl), .val (.int (0 : Int32)), .val (.int b11), .val (.int b12), .val (.long jj), .second, .val (.long tt), .second, .val r1, .val r2, .val r3, .val r4, .val (.int b21), .val (.long inn), .second, .val (.int sm), .val (.long old), .second, .val (.long (-9223372036854775808 : Int64)), .second] [(.long (-9223372036854775808 : Int64)), (.long old), (.long v1), (.long v0)])) rfl (by rw [hml]; rfl) (argsL := [(.long v0), (.long v1), (.long old), (.long (-9223372036854775808 : Int64))]) (rest := []) (lenOf pd_7 rfl) rfl (by show 2 * 0 + _ ≤ _; exact Nat.le_of_eq rfl) (hb hby d3_253) (fun _ _ => ⟨rfl, e1, hcl, hsl⟩)
  dsimp only [Pt.U, Pt.locs, Pt.cells, Pt.slots] at X6 l6 y6 z6 st6 hQ6
  subst l6 y6 z6
  obtain ⟨rfl, N6q, e6⟩ := hQ6
  have N6 := Fr.app N1 N6q
  have kp7 : Keep h0 h0 [arr] := (Keep.refl h0 [arr])
  refine ⟨T6, _, _, (.val (.long old)), (.second), (.val (.long (-9223372036854775808 : Int64))), (.second), X6, e6, N6, ⟨VA, kp7⟩, fun target kt => ?_⟩
  show Steps p.tables e below (T0.setTop (mkF m 203 #[.val (.ref pq), .val (.ref arr), .val (.long old), .second, .val (.long x), .second, .val (.long s'), .second, .val (.int ids), .val (.int fl), .val (.int (0 : Int32)), .val (.int b11), .val (.int b12), .val (.long jj), .second, .val (.long tt), .second, .val r1, .val r2, .val r3, .val r4, .val (.int b21), .val (.long inn), .second, .val (.int sm), .unset, .unset, .unset, .unset] [])) _
  refine XS.iload X0.here hx rfl (hb hby d3_203) rfl ?_
  refine XS.ifNo X0.here hx rfl (hb hby d3_205) rfl ((if0 _ _).trans (teq hc205).2) ?_
  refine XS.lloadN X0.here hx rfl (hb hby d3_208) rfl ?_
  refine XS.lstore X0.here hx rfl (hb hby d3_209) rfl (l' := #[.val (.ref pq), .val (.ref arr), .val (.long old), .second, .val (.long x), .second, .val (.long s'), .second, .val (.int ids), .val (.int fl), .val (.int (0 : Int32)), .val (.int b11), .val (.int b12), .val (.long jj), .second, .val (.long tt), .second, .val r1, .val r2, .val r3, .val r4, .val (.int b21), .val (.long inn), .second, .val (.int sm), .val (.long old), .second, .unset, .unset]) rfl ?_
  refine X0.ldc2Long hx hown (mvT hZ (ow hw 17 rfl)) (g := (mkF m 211 #[.val (.ref pq), .val (.ref arr), .val (.long old), .second, .val (.long x), .second, .val (.long s'), .second, .val (.int ids), .val (.int fl), .val (.int (0 : Int32)), .val (.int b11), .val (.int b12), .val (.long jj), .second, .val (.long tt), .second, .val r1, .val r2, .val r3, .val r4, .val (.int b21), .val (.long inn), .second, .val (.int sm), .val (.long old), .second, .unset, .unset] [])) rfl (hb hby d3_211) _ ?_
  refine XS.lstore X0.here hx rfl (hb hby d3_214) rfl (l' := #[.val (.ref pq), .val (.ref arr), .val (.long old), .second, .val (.long x), .second, .val (.long s'), .second, .val (.int ids), .val (.int fl), .val (.int (0 : Int32)), .val (.int b11), .val (.int b12), .val (.long jj), .second, .val (.long tt), .second, .val r1, .val r2, .val r3, .val r4, .val (.int b21), .val (.long inn), .second, .val (.int sm), .val (.long old), .second, .val (.long (-9223372036854775808 : Int64)), .second]) rfl ?_
  refine XS.iload X0.here hx rfl (hb hby d3_216) rfl ?_
  refine XS.ifNo X0.here hx rfl (hb hby d3_218) rfl ((if0 _ _).trans (teq (rfl : (0 : Int32) = (0 : Int32))).2) ?_
  refine XS.lload X0.here hx rfl (hb hby d3_221) rfl ?_
  show Steps p.tables e below (T0.setTop (mkF m 223 #[.val (.ref pq), .val (.ref arr), .val (.long old), .second, .val (.long x), .second, .val (.long s'), .second, .val (.int ids), .val (.int fl), .val (.int (0 : Int32)), .val (.int b11), .val (.int b12), .val (.long jj), .second, .val (.long tt), .second, .val r1, .val r2, .val r3, .val r4, .val (.int b21), .val (.long inn), .second, .val (.int sm), .val (.long old), .second, .val (.long (-9223372036854775808 : Int64)), .second] [(.long x)])) _
  refine XS.lload X0.here hx rfl (hb hby d3_223) rfl ?_
  refine XS.lloadN X0.here hx rfl (hb hby d3_225) rfl ?_
  refine X0.ldc2Long hx hown (mvT hZ (ow hw 17 rfl)) (g := (mkF m 226 #[.val (.ref pq), .val (.ref arr), .val (.long old), .second, .val (.long x), .second, .val (.long s'), .second, .val (.int ids), .val (.int fl), .val (.int (0 : Int32)), .val (.int b11), .val (.int b12), .val (.long jj), .second, .val (.long tt), .second, .val r1, .val r2, .val r3, .val r4, .val (.int b21), .val (.long inn), .second, .val (.int sm), .val (.long old), .second, .val (.long (-9223372036854775808 : Int64)), .second] [(.long old), (.long s'), (.long x)])) rfl (hb hby d3_226) _ ?_
  refine st1 _ ?_
  refine XS.ifYes X1.here hx rfl (pc0 := 232) (pc' := 243) rfl (hb hby d3_232) rfl ((if0 _ _).trans (teq hc232).1) (by decide) (by decide) ?_
  refine XS.aloadN X1.here hx rfl (hb hby d3_243) rfl rfl ?_
  refine XS.iconst X1.here hx rfl (hb hby d3_244) ?_
  refine X1.laload hx (j := (0 : Int32)) (v := (.long v0)) (by rw [e1]; exact Arz2.1) (State.isArrayOf_alike hZ.alike Arz2.2.1) Arz2.2.2 hin3 hat3 (g := (mkF m 245 #[.val (.ref pq), .val (.ref arr), .val (.long old), .second, .val (.long x), .second, .val (.long s'), .second, .val (.int ids), .val (.int fl), .val (.int (0 : Int32)), .val (.int b11), .val (.int b12), .val (.long jj), .second, .val (.long tt), .second, .val r1, .val r2, .val r3, .val r4, .val (.int b21), .val (.long inn), .second, .val (.int sm), .val (.long old), .second, .val (.long (-9223372036854775808 : Int64)), .second] [(.int (0 : Int32)), (.ref arr)])) rfl rfl (hb hby d3_245) _ ?_
  refine XS.aloadN X1.here hx rfl (hb hby d3_246) rfl rfl ?_
  show Steps p.tables e below (T1.setTop (mkF m 247 #[.val (.ref pq), .val (.ref arr), .val (.long old), .second, .val (.long x), .second, .val (.long s'), .second, .val (.int ids), .val (.int fl), .val (.int (0 : Int32)), .val (.int b11), .val (.int b12), .val (.long jj), .second, .val (.long tt), .second, .val r1, .val r2, .val r3, .val r4, .val (.int b21), .val (.long inn), .second, .val (.int sm), .val (.long old), .second, .val (.long (-9223372036854775808 : Int64)), .second] [(.ref arr), (.long v0)])) _
  refine XS.iconst X1.here hx rfl (hb hby d3_247) ?_
  refine X1.laload hx (j := (1 : Int32)) (v := (.long v1)) (by rw [e1]; exact Arz4.1) (State.isArrayOf_alike hZ.alike Arz4.2.1) Arz4.2.2 hin5 hat5 (g := (mkF m 248 #[.val (.ref pq), .val (.ref arr), .val (.long old), .second, .val (.long x), .second, .val (.long s'), .second, .val (.int ids), .val (.int fl), .val (.int (0 : Int32)), .val (.int b11), .val (.int b12), .val (.long jj), .second, .val (.long tt), .second, .val r1, .val r2, .val r3, .val r4, .val (.int b21), .val (.long inn), .second, .val (.int sm), .val (.long old), .second, .val (.long (-9223372036854775808 : Int64)), .second] [(.int (1 : Int32)), (.ref arr), (.long v0)])) rfl rfl (hb hby d3_248) _ ?_
  refine XS.lload X1.here hx rfl (hb hby d3_249) rfl ?_
  refine XS.lload X1.here hx rfl (hb hby d3_251) rfl ?_
  refine st6 _ ?_
  refine XS.ifYes X6.here hx rfl (pc0 := 256) (pc' := 269) rfl (hb hby d3_256) rfl ((if0 _ _).trans (teq hc256).1) (by decide) (by decide) ?_
  exact kt
theorem d3_259 : decode method_4_code 259 = .ok (.aload_n 1, 1) := by decide +kernel
theorem d3_260 : decode method_4_code 260 = .ok (.iconst 0, 1) := by decide +kernel
theorem d3_261 : decode method_4_code 261 = .ok (.lload 25, 2) := by decide +kernel
theorem d3_263 : decode method_4_code 263 = .ok (.lastore, 1) := by decide +kernel
theorem d3_264 : decode method_4_code 264 = .ok (.aload_n 1, 1) := by decide +kernel
theorem d3_265 : decode method_4_code 265 = .ok (.iconst 1, 1) := by decide +kernel
theorem d3_266 : decode method_4_code 266 = .ok (.lload 27, 2) := by decide +kernel
theorem d3_268 : decode method_4_code 268 = .ok (.lastore, 1) := by decide +kernel
set_option maxRecDepth 65536 in
set_option maxHeartbeats 40000000 in
theorem s3_0_n1 {p : Program} {l : Launch} {e : Env} {s : State} {m : MethodId} {args : Array Value} {below : List Frame} {meth : Method} {c : Code} {T0 : State} {locs : List Loc} {cells slots : Nat} {Z : State} {a0 : Array Value} {h0 : Heap} {n0 : Nat} (pq : Addr) (arr : Addr) (k : ClassId) (old : Int64) (x : Int64) (s' : Int64) (ids : Int32) (fl : Int32) (b10 : Int32) (b11 : Int32) (b12 : Int32) (jj : Int64) (tt : Int64) (r1 : Value) (r2 : Value) (r3 : Value) (r4 : Value) (v0 : Int64) (v1 : Int64) (v2 : Int64) (v3 : Int64) (b21 : Int32) (inn : Int64) (sm : Int32)
    (X0 : Stand p l e rr_4_4_4_53 s m args below meth c T0 locs cells slots) (hx : p.tables.exec = Jvm.exec) (hZ : Z.Warmed39 s.vm) (hw : ∀ d ∈ tables_1, d.before a0 Z = true) (hby : c.code = method_4_code) (hml : c.maxLocals = 29) (hown : s.vm.findClass "com/example/keyed_work_queue/keyedworkqueue/PendingFoundPinLaw" = some m.cls) (e0 : T0.heap = h0) (hcl : cells ≤ rr_4_4_4_53.cells) (hsl : slots ≤ rr_4_4_4_53.slots) (Z0 : n0 ≤ h0.size) (N0 : Fr n0 locs) (g0_arr : n0 ≤ arr) (VA : Arv Z h0 arr k .long (4 : Int32) [(.long v0), (.long v1), (.long v2), (.long v3)] (.long (0 : Int64))) (hc205 : sm = (0 : Int32)) (hc232 : (if Lex x s' old (-9223372036854775808 : Int64) then (1 : Int32) else 0) = (0 : Int32)) (hc256 : ¬ ((if Lex v0 v1 old (-9223372036854775808 : Int64) then (1 : Int32) else 0) = (0 : Int32))) :
    ∃ (T' : State) (h' : Heap) (L' : List Loc) (s25 s26 s27 s28 : Slot), Stand p l e rr_4_4_4_53 s m args below meth c T' L' cells slots ∧ T'.heap = h' ∧ Fr n0 L' ∧ (Arv Z h' arr k .long (4 : Int32) [(.long old), (.long (-9223372036854775808 : Int64)), (.long v2), (.long v3)] (.long (0 : Int64)) ∧ Keep h0 h' [arr]) ∧
      ∀ target, Steps p.tables e below (T'.setTop (mkF m 269 #[.val (.ref pq), .val (.ref arr), .val (.long old), .second, .val (.long x), .second, .val (.long s'), .second, .val (.int ids), .val (.int fl), .val (.int (0 : Int32)), .val (.int b11), .val (.int b12), .val (.long jj), .second, .val (.long tt), .second, .val r1, .val r2, .val r3, .val r4, .val (.int b21), .val (.long inn), .second, .val (.int sm), s25, s26, s27, s28] [])) target → Steps p.tables e below (T0.setTop (mkF m 203 #[.val (.ref pq), .val (.ref arr), .val (.long old), .second, .val (.long x), .second, .val (.long s'), .second, .val (.int ids), .val (.int fl), .val (.int (0 : Int32)), .val (.int b11), .val (.int b12), .val (.long jj), .second, .val (.long tt), .second, .val r1, .val r2, .val r3, .val r4, .val (.int b21), .val (.long inn), .second, .val (.int sm), .unset, .unset, .unset, .unset] [])) target := by
  obtain ⟨_, _, ⟨T1, L1, k1, n1⟩, -, X1, ⟨Lc1, hQ1, l1, y1, z1⟩, st1⟩ := Jvm.LawKit.callS X0 hx (y := nm_10) hown (mvT hZ (ow hw 62 rfl)) (mvT hZ (ow hw 63 rfl)) (mvT hZ (ow hw 20 rfl)) (mvT hZ (ow hw 64 rfl)) (by decide) (backOf (W := 0) (rm10 l Z a0 hw [] x s' old (-9223372036854775808 : Int64) h0 n0 Z0) hZ (ow hw 64 rfl) (ow hw 20 rfl) (by decide) (by decide)) (g := (mkF m 229 #[.val (.ref pq), .val (.ref arr), .val (.long old), .second, .val (.long x), .second, .val (.long s'), .second, .val (.int ids), .val (.int fl), .val (.int (0 : Int32)), .val (.int b11), .val (.int b12), .val (.long jj), .second, .val (.long tt), .second, .val r1, .val r2, .val r3, .val r4, .val (.int b21), .val (.long inn), .second, .val (.int sm), .val (.long old), .second, .val (.long (-9223372036854775808 : Int64)), .second] [(.long (-9223372036854775808 : Int64)), (.long old), (.long s'), (.long x)])) rfl (by rw [hml]; rfl) (argsL := [(.long x), (.long s'), (.long old), (.long (-9223372036854775808 : Int64))]) (rest := []) (lenOf pd_7 rfl) rfl (by show 2 * 0 + _ ≤ _; exact Nat.le_of_eq rfl) (hb hby d3_229) (fun _ _ => ⟨rfl, e0, hcl, hsl⟩)
  dsimp only [Pt.U, Pt.locs, Pt.cells, Pt.slots] at X1 l1 y1 z1 st1 hQ1
  subst l1 y1 z1
  obtain ⟨rfl, N1q, e1⟩ := hQ1
  have N1 := Fr.app N0 N1q
  obtain ⟨clz2, Arz2, qz2, Sz2, Nz2, Hz2, Gz2⟩ := id VA
  have hin3 : ¬ ((0 : Int32) < 0 ∨ clz2.slots.size ≤ ((0 : Int32)).toNatClampNeg) := inb_of Sz2 ⟨by decide, by decide⟩
  have hat3 : clz2.slots[((0 : Int32)).toNatClampNeg]? = some (.long v0) := Hz2.at hin3 rfl
  obtain ⟨clz4, Arz4, qz4, Sz4, Nz4, Hz4, Gz4⟩ := id VA
  have hin5 : ¬ ((1 : Int32) < 0 ∨ clz4.slots.size ≤ ((1 : Int32)).toNatClampNeg) := inb_of Sz4 ⟨by decide, by decide⟩
  have hat5 : clz4.slots[((1 : Int32)).toNatClampNeg]? = some (.long v1) := Hz4.at hin5 rfl
  obtain ⟨_, _, ⟨T6, L6, k6, n6⟩, -, X6, ⟨Lc6, hQ6, l6, y6, z6⟩, st6⟩ := Jvm.LawKit.callS X1 hx (y := nm_10) hown (mvT hZ (ow hw 62 rfl)) (mvT hZ (ow hw 63 rfl)) (mvT hZ (ow hw 20 rfl)) (mvT hZ (ow hw 64 rfl)) (by decide) (backOf (W := 0) (rm10 l Z a0 hw [] v0 v1 old (-9223372036854775808 : Int64) h0 n0 Z0) hZ (ow hw 64 rfl) (ow hw 20 rfl) (by decide) (by decide)) (g := (mkF m 253 #[.val (.ref pq), .val (.ref arr), .val (.long old), .second, .val (.long x), .second, .val (.long s'), .second, .val (.int ids), .val (.int fl), .val (.int (0 : Int32)), .val (.int b11), .val (.int b12), .val (.long jj), .second, .val (.long tt), .second, .val r1, .val r2, .val r3, .val r4, .val (.int b21), .val (.long inn), .second, .val (.int sm), .val (.long old), .second, .val (.long (-9223372036854775808 : Int64)), .second] [(.long (-9223372036854775808 : Int64)), (.long old), (.long v1), (.long v0)])) rfl (by rw [hml]; rfl) (argsL := [(.long v0), (.long v1), (.long old), (.long (-9223372036854775808 : Int64))]) (rest := []) (lenOf pd_7 rfl) rfl (by show 2 * 0 + _ ≤ _; exact Nat.le_of_eq rfl) (hb hby d3_253) (fun _ _ => ⟨rfl, e1, hcl, hsl⟩)
  dsimp only [Pt.U, Pt.locs, Pt.cells, Pt.slots] at X6 l6 y6 z6 st6 hQ6
  subst l6 y6 z6
  obtain ⟨rfl, N6q, e6⟩ := hQ6
  have N6 := Fr.app N1 N6q
  obtain ⟨clz7, Arz7, qz7, Sz7, Nz7, Hz7, Gz7⟩ := id VA
  have hin8 : ¬ ((0 : Int32) < 0 ∨ clz7.slots.size ≤ ((0 : Int32)).toNatClampNeg) := inb_of Sz7 ⟨by decide, by decide⟩
  obtain ⟨T8, h8, X8, e8, W8, st8⟩ := stJ X6 hx hZ e6 Arz7 (j := (0 : Int32)) hin8 (g := (mkF m 263 #[.val (.ref pq), .val (.ref arr), .val (.long old), .second, .val (.long x), .second, .val (.long s'), .second, .val (.int ids), .val (.int fl), .val (.int (0 : Int32)), .val (.int b11), .val (.int b12), .val (.long jj), .second, .val (.long tt), .second, .val r1, .val r2, .val r3, .val r4, .val (.int b21), .val (.long inn), .second, .val (.int sm), .val (.long old), .second, .val (.long (-9223372036854775808 : Int64)), .second] [(.long old), (.int (0 : Int32)), (.ref arr)])) rfl rfl (hb hby d3_263)
  have V8 : Arv Z h8 arr k .long (4 : Int32) [(.long old), (.long v1), (.long v2), (.long v3)] (.long (0 : Int64)) := Arv.set Arz7 qz7 Sz7 Nz7 Hz7 Gz7 rfl W8 0 rfl (Nat.le_of_ble_eq_true rfl)
  have N8 := Fr.snoc X8 N6 g0_arr
  obtain ⟨clz9, Arz9, qz9, Sz9, Nz9, Hz9, Gz9⟩ := id V8
  have hin10 : ¬ ((1 : Int32) < 0 ∨ clz9.slots.size ≤ ((1 : Int32)).toNatClampNeg) := inb_of Sz9 ⟨by decide, by decide⟩
  obtain ⟨T10, h10, X10, e10, W10, st10⟩ := stJ X8 hx hZ e8 Arz9 (j := (1 : Int32)) hin10 (g := (mkF m 268 #[.val (.ref pq), .val (.ref arr), .val (.long old), .second, .val (.long x), .second, .val (.long s'), .second, .val (.int ids), .val (.int fl), .val (.int (0 : Int32)), .val (.int b11), .val (.int b12), .val (.long jj), .second, .val (.long tt), .second, .val r1, .val r2, .val r3, .val r4, .val (.int b21), .val (.long inn), .second, .val (.int sm), .val (.long old), .second, .val (.long (-9223372036854775808 : Int64)), .second] [(.long (-9223372036854775808 : Int64)), (.int (1 : Int32)), (.ref arr)])) rfl rfl (hb hby d3_268)
  have V10 : Arv Z h10 arr k .long (4 : Int32) [(.long old), (.long (-9223372036854775808 : Int64)), (.long v2), (.long v3)] (.long (0 : Int64)) := Arv.set Arz9 qz9 Sz9 Nz9 Hz9 Gz9 rfl W10 1 rfl (Nat.le_of_ble_eq_true rfl)
  have N10 := Fr.snoc X10 N8 g0_arr
  have kp11 : Keep h0 h10 [arr] := (((Keep.refl h0 [arr]).wr W8 (Or.inl (List.mem_of_getElem? (i := 0) rfl))).wr W10 (Or.inl (List.mem_of_getElem? (i := 0) rfl)))
  refine ⟨T10, _, _, (.val (.long old)), (.second), (.val (.long (-9223372036854775808 : Int64))), (.second), X10, e10, N10, ⟨V10, kp11⟩, fun target kt => ?_⟩
  show Steps p.tables e below (T0.setTop (mkF m 203 #[.val (.ref pq), .val (.ref arr), .val (.long old), .second, .val (.long x), .second, .val (.long s'), .second, .val (.int ids), .val (.int fl), .val (.int (0 : Int32)), .val (.int b11), .val (.int b12), .val (.long jj), .second, .val (.long tt), .second, .val r1, .val r2, .val r3, .val r4, .val (.int b21), .val (.long inn), .second, .val (.int sm), .unset, .unset, .unset, .unset] [])) _
  refine XS.iload X0.here hx rfl (hb hby d3_203) rfl ?_
  refine XS.ifNo X0.here hx rfl (hb hby d3_205) rfl ((if0 _ _).trans (teq hc205).2) ?_
  refine XS.lloadN X0.here hx rfl (hb hby d3_208) rfl ?_
  refine XS.lstore X0.here hx rfl (hb hby d3_209) rfl (l' := #[.val (.ref pq), .val (.ref arr), .val (.long old), .second, .val (.long x), .second, .val (.long s'), .second, .val (.int ids), .val (.int fl), .val (.int (0 : Int32)), .val (.int b11), .val (.int b12), .val (.long jj), .second, .val (.long tt), .second, .val r1, .val r2, .val r3, .val r4, .val (.int b21), .val (.long inn), .second, .val (.int sm), .val (.long old), .second, .unset, .unset]) rfl ?_
  refine X0.ldc2Long hx hown (mvT hZ (ow hw 17 rfl)) (g := (mkF m 211 #[.val (.ref pq), .val (.ref arr), .val (.long old), .second, .val (.long x), .second, .val (.long s'), .second, .val (.int ids), .val (.int fl), .val (.int (0 : Int32)), .val (.int b11), .val (.int b12), .val (.long jj), .second, .val (.long tt), .second, .val r1, .val r2, .val r3, .val r4, .val (.int b21), .val (.long inn), .second, .val (.int sm), .val (.long old), .second, .unset, .unset] [])) rfl (hb hby d3_211) _ ?_
  refine XS.lstore X0.here hx rfl (hb hby d3_214) rfl (l' := #[.val (.ref pq), .val (.ref arr), .val (.long old), .second, .val (.long x), .second, .val (.long s'), .second, .val (.int ids), .val (.int fl), .val (.int (0 : Int32)), .val (.int b11), .val (.int b12), .val (.long jj), .second, .val (.long tt), .second, .val r1, .val r2, .val r3, .val r4, .val (.int b21), .val (.long inn), .second, .val (.int sm), .val (.long old), .second, .val (.long (-9223372036854775808 : Int64)), .second]) rfl ?_
  refine XS.iload X0.here hx rfl (hb hby d3_216) rfl ?_
  refine XS.ifNo X0.here hx rfl (hb hby d3_218) rfl ((if0 _ _).trans (teq (rfl : (0 : Int32) = (0 : Int32))).2) ?_
  refine XS.lload X0.here hx rfl (hb hby d3_221) rfl ?_
  show Steps p.tables e below (T0.setTop (mkF m 223 #[.val (.ref pq), .val (.ref arr), .val (.long old), .second, .val (.long x), .second, .val (.long s'), .second, .val (.int ids), .val (.int fl), .val (.int (0 : Int32)), .val (.int b11), .val (.int b12), .val (.long jj), .second, .val (.long tt), .second, .val r1, .val r2, .val r3, .val r4, .val (.int b21), .val (.long inn), .second, .val (.int sm), .val (.long old), .second, .val (.long (-9223372036854775808 : Int64)), .second] [(.long x)])) _
  refine XS.lload X0.here hx rfl (hb hby d3_223) rfl ?_
  refine XS.lloadN X0.here hx rfl (hb hby d3_225) rfl ?_
  refine X0.ldc2Long hx hown (mvT hZ (ow hw 17 rfl)) (g := (mkF m 226 #[.val (.ref pq), .val (.ref arr), .val (.long old), .second, .val (.long x), .second, .val (.long s'), .second, .val (.int ids), .val (.int fl), .val (.int (0 : Int32)), .val (.int b11), .val (.int b12), .val (.long jj), .second, .val (.long tt), .second, .val r1, .val r2, .val r3, .val r4, .val (.int b21), .val (.long inn), .second, .val (.int sm), .val (.long old), .second, .val (.long (-9223372036854775808 : Int64)), .second] [(.long old), (.long s'), (.long x)])) rfl (hb hby d3_226) _ ?_
  refine st1 _ ?_
  refine XS.ifYes X1.here hx rfl (pc0 := 232) (pc' := 243) rfl (hb hby d3_232) rfl ((if0 _ _).trans (teq hc232).1) (by decide) (by decide) ?_
  refine XS.aloadN X1.here hx rfl (hb hby d3_243) rfl rfl ?_
  refine XS.iconst X1.here hx rfl (hb hby d3_244) ?_
  refine X1.laload hx (j := (0 : Int32)) (v := (.long v0)) (by rw [e1]; exact Arz2.1) (State.isArrayOf_alike hZ.alike Arz2.2.1) Arz2.2.2 hin3 hat3 (g := (mkF m 245 #[.val (.ref pq), .val (.ref arr), .val (.long old), .second, .val (.long x), .second, .val (.long s'), .second, .val (.int ids), .val (.int fl), .val (.int (0 : Int32)), .val (.int b11), .val (.int b12), .val (.long jj), .second, .val (.long tt), .second, .val r1, .val r2, .val r3, .val r4, .val (.int b21), .val (.long inn), .second, .val (.int sm), .val (.long old), .second, .val (.long (-9223372036854775808 : Int64)), .second] [(.int (0 : Int32)), (.ref arr)])) rfl rfl (hb hby d3_245) _ ?_
  refine XS.aloadN X1.here hx rfl (hb hby d3_246) rfl rfl ?_
  show Steps p.tables e below (T1.setTop (mkF m 247 #[.val (.ref pq), .val (.ref arr), .val (.long old), .second, .val (.long x), .second, .val (.long s'), .second, .val (.int ids), .val (.int fl), .val (.int (0 : Int32)), .val (.int b11), .val (.int b12), .val (.long jj), .second, .val (.long tt), .second, .val r1, .val r2, .val r3, .val r4, .val (.int b21), .val (.long inn), .second, .val (.int sm), .val (.long old), .second, .val (.long (-9223372036854775808 : Int64)), .second] [(.ref arr), (.long v0)])) _
  refine XS.iconst X1.here hx rfl (hb hby d3_247) ?_
  refine X1.laload hx (j := (1 : Int32)) (v := (.long v1)) (by rw [e1]; exact Arz4.1) (State.isArrayOf_alike hZ.alike Arz4.2.1) Arz4.2.2 hin5 hat5 (g := (mkF m 248 #[.val (.ref pq), .val (.ref arr), .val (.long old), .second, .val (.long x), .second, .val (.long s'), .second, .val (.int ids), .val (.int fl), .val (.int (0 : Int32)), .val (.int b11), .val (.int b12), .val (.long jj), .second, .val (.long tt), .second, .val r1, .val r2, .val r3, .val r4, .val (.int b21), .val (.long inn), .second, .val (.int sm), .val (.long old), .second, .val (.long (-9223372036854775808 : Int64)), .second] [(.int (1 : Int32)), (.ref arr), (.long v0)])) rfl rfl (hb hby d3_248) _ ?_
  refine XS.lload X1.here hx rfl (hb hby d3_249) rfl ?_
  refine XS.lload X1.here hx rfl (hb hby d3_251) rfl ?_
  refine st6 _ ?_
  refine XS.ifNo X6.here hx rfl (hb hby d3_256) rfl ((if0 _ _).trans (feq hc256).1) ?_
  refine XS.aloadN X6.here hx rfl (hb hby d3_259) rfl rfl ?_
  refine XS.iconst X6.here hx rfl (hb hby d3_260) ?_
  refine XS.lload X6.here hx rfl (hb hby d3_261) rfl ?_
  show Steps p.tables e below (T6.setTop (mkF m 263 #[.val (.ref pq), .val (.ref arr), .val (.long old), .second, .val (.long x), .second, .val (.long s'), .second, .val (.int ids), .val (.int fl), .val (.int (0 : Int32)), .val (.int b11), .val (.int b12), .val (.long jj), .second, .val (.long tt), .second, .val r1, .val r2, .val r3, .val r4, .val (.int b21), .val (.long inn), .second, .val (.int sm), .val (.long old), .second, .val (.long (-9223372036854775808 : Int64)), .second] [(.long old), (.int (0 : Int32)), (.ref arr)])) _
  refine st8 _ ?_
  refine XS.aloadN X8.here hx rfl (hb hby d3_264) rfl rfl ?_
  refine XS.iconst X8.here hx rfl (hb hby d3_265) ?_
  refine XS.lload X8.here hx rfl (hb hby d3_266) rfl ?_
  refine st10 _ ?_
  exact kt
theorem d3_235 : decode method_4_code 235 = .ok (.lload 4, 2) := by decide +kernel
theorem d3_237 : decode method_4_code 237 = .ok (.lstore 25, 2) := by decide +kernel
theorem d3_239 : decode method_4_code 239 = .ok (.lload 6, 2) := by decide +kernel
theorem d3_241 : decode method_4_code 241 = .ok (.lstore 27, 2) := by decide +kernel
set_option maxRecDepth 65536 in
set_option maxHeartbeats 40000000 in
theorem s3_0_y0 {p : Program} {l : Launch} {e : Env} {s : State} {m : MethodId} {args : Array Value} {below : List Frame} {meth : Method} {c : Code} {T0 : State} {locs : List Loc} {cells slots : Nat} {Z : State} {a0 : Array Value} {h0 : Heap} {n0 : Nat} (pq : Addr) (arr : Addr) (k : ClassId) (old : Int64) (x : Int64) (s' : Int64) (ids : Int32) (fl : Int32) (b10 : Int32) (b11 : Int32) (b12 : Int32) (jj : Int64) (tt : Int64) (r1 : Value) (r2 : Value) (r3 : Value) (r4 : Value) (v0 : Int64) (v1 : Int64) (v2 : Int64) (v3 : Int64) (b21 : Int32) (inn : Int64) (sm : Int32)
    (X0 : Stand p l e rr_4_4_4_53 s m args below meth c T0 locs cells slots) (hx : p.tables.exec = Jvm.exec) (hZ : Z.Warmed39 s.vm) (hw : ∀ d ∈ tables_1, d.before a0 Z = true) (hby : c.code = method_4_code) (hml : c.maxLocals = 29) (hown : s.vm.findClass "com/example/keyed_work_queue/keyedworkqueue/PendingFoundPinLaw" = some m.cls) (e0 : T0.heap = h0) (hcl : cells ≤ rr_4_4_4_53.cells) (hsl : slots ≤ rr_4_4_4_53.slots) (Z0 : n0 ≤ h0.size) (N0 : Fr n0 locs) (g0_arr : n0 ≤ arr) (VA : Arv Z h0 arr k .long (4 : Int32) [(.long v0), (.long v1), (.long v2), (.long v3)] (.long (0 : Int64))) (hc205 : sm = (0 : Int32)) (hc232 : ¬ ((if Lex x s' old (-9223372036854775808 : Int64) then (1 : Int32) else 0) = (0 : Int32))) (hc256 : (if Lex v0 v1 x s' then (1 : Int32) else 0) = (0 : Int32)) :
    ∃ (T' : State) (h' : Heap) (L' : List Loc) (s25 s26 s27 s28 : Slot), Stand p l e rr_4_4_4_53 s m args below meth c T' L' cells slots ∧ T'.heap = h' ∧ Fr n0 L' ∧ (Arv Z h' arr k .long (4 : Int32) [(.long v0), (.long v1), (.long v2), (.long v3)] (.long (0 : Int64)) ∧ Keep h0 h' [arr]) ∧
      ∀ target, Steps p.tables e below (T'.setTop (mkF m 269 #[.val (.ref pq), .val (.ref arr), .val (.long old), .second, .val (.long x), .second, .val (.long s'), .second, .val (.int ids), .val (.int fl), .val (.int (0 : Int32)), .val (.int b11), .val (.int b12), .val (.long jj), .second, .val (.long tt), .second, .val r1, .val r2, .val r3, .val r4, .val (.int b21), .val (.long inn), .second, .val (.int sm), s25, s26, s27, s28] [])) target → Steps p.tables e below (T0.setTop (mkF m 203 #[.val (.ref pq), .val (.ref arr), .val (.long old), .second, .val (.long x), .second, .val (.long s'), .second, .val (.int ids), .val (.int fl), .val (.int (0 : Int32)), .val (.int b11), .val (.int b12), .val (.long jj), .second, .val (.long tt), .second, .val r1, .val r2, .val r3, .val r4, .val (.int b21), .val (.long inn), .second, .val (.int sm), .unset, .unset, .unset, .unset] [])) target := by
  obtain ⟨_, _, ⟨T1, L1, k1, n1⟩, -, X1, ⟨Lc1, hQ1, l1, y1, z1⟩, st1⟩ := Jvm.LawKit.callS X0 hx (y := nm_10) hown (mvT hZ (ow hw 62 rfl)) (mvT hZ (ow hw 63 rfl)) (mvT hZ (ow hw 20 rfl)) (mvT hZ (ow hw 64 rfl)) (by decide) (backOf (W := 0) (rm10 l Z a0 hw [] x s' old (-9223372036854775808 : Int64) h0 n0 Z0) hZ (ow hw 64 rfl) (ow hw 20 rfl) (by decide) (by decide)) (g := (mkF m 229 #[.val (.ref pq), .val (.ref arr), .val (.long old), .second, .val (.long x), .second, .val (.long s'), .second, .val (.int ids), .val (.int fl), .val (.int (0 : Int32)), .val (.int b11), .val (.int b12), .val (.long jj), .second, .val (.long tt), .second, .val r1, .val r2, .val r3, .val r4, .val (.int b21), .val (.long inn), .second, .val (.int sm), .val (.long old), .second, .val (.long (-9223372036854775808 : Int64)), .second] [(.long (-9223372036854775808 : Int64)), (.long old), (.long s'), (.long x)])) rfl (by rw [hml]; rfl) (argsL := [(.long x), (.long s'), (.long old), (.long (-9223372036854775808 : Int64))]) (rest := []) (lenOf pd_7 rfl) rfl (by show 2 * 0 + _ ≤ _; exact Nat.le_of_eq rfl) (hb hby d3_229) (fun _ _ => ⟨rfl, e0, hcl, hsl⟩)
  dsimp only [Pt.U, Pt.locs, Pt.cells, Pt.slots] at X1 l1 y1 z1 st1 hQ1
  subst l1 y1 z1
  obtain ⟨rfl, N1q, e1⟩ := hQ1
  have N1 := Fr.app N0 N1q
  obtain ⟨clz2, Arz2, qz2, Sz2, Nz2, Hz2, Gz2⟩ := id VA
  have hin3 : ¬ ((0 : Int32) < 0 ∨ clz2.slots.size ≤ ((0 : Int32)).toNatClampNeg) := inb_of Sz2 ⟨by decide, by decide⟩
  have hat3 : clz2.slots[((0 : Int32)).toNatClampNeg]? = some (.long v0) := Hz2.at hin3 rfl
  obtain ⟨clz4, Arz4, qz4, Sz4, Nz4, Hz4, Gz4⟩ := id VA
  have hin5 : ¬ ((1 : Int32) < 0 ∨ clz4.slots.size ≤ ((1 : Int32)).toNatClampNeg) := inb_of Sz4 ⟨by decide, by decide⟩
  have hat5 : clz4.slots[((1 : Int32)).toNatClampNeg]? = some (.long v1) := Hz4.at hin5 rfl
  obtain ⟨_, _, ⟨T6, L6, k6, n6⟩, -, X6, ⟨Lc6, hQ6, l6, y6, z6⟩, st6⟩ := Jvm.LawKit.callS X1 hx (y := nm_10) hown (mvT hZ (ow hw 62 rfl)) (mvT hZ (ow hw 63 rfl)) (mvT hZ (ow hw 20 rfl)) (mvT hZ (ow hw 64 rfl)) (by decide) (backOf (W := 0) (rm10 l Z a0 hw [] v0 v1 x s' h0 n0 Z0) hZ (ow hw 64 rfl) (ow hw 20 rfl) (by decide) (by decide)) (g := (mkF m 253 #[.val (.ref pq), .val (.ref arr), .val (.long old), .second, .val (.long x), .second, .val (.long s'), .second, .val (.int ids), .val (.int fl), .val (.int (0 : Int32)), .val (.int b11), .val (.int b12), .val (.long jj), .second, .val (.long tt), .second, .val r1, .val r2, .val r3, .val r4, .val (.int b21), .val (.long inn), .second, .val (.int sm), .val (.long x), .second, .val (.long s'), .second] [(.long s'), (.long x), (.long v1), (.long v0)])) rfl (by rw [hml]; rfl) (argsL := [(.long v0), (.long v1), (.long x), (.long s')]) (rest := []) (lenOf pd_7 rfl) rfl (by show 2 * 0 + _ ≤ _; exact Nat.le_of_eq rfl) (hb hby d3_253) (fun _ _ => ⟨rfl, e1, hcl, hsl⟩)
  dsimp only [Pt.U, Pt.locs, Pt.cells, Pt.slots] at X6 l6 y6 z6 st6 hQ6
  subst l6 y6 z6
  obtain ⟨rfl, N6q, e6⟩ := hQ6
  have N6 := Fr.app N1 N6q
  have kp7 : Keep h0 h0 [arr] := (Keep.refl h0 [arr])
  refine ⟨T6, _, _, (.val (.long x)), (.second), (.val (.long s')), (.second), X6, e6, N6, ⟨VA, kp7⟩, fun target kt => ?_⟩
  show Steps p.tables e below (T0.setTop (mkF m 203 #[.val (.ref pq), .val (.ref arr), .val (.long old), .second, .val (.long x), .second, .val (.long s'), .second, .val (.int ids), .val (.int fl), .val (.int (0 : Int32)), .val (.int b11), .val (.int b12), .val (.long jj), .second, .val (.long tt), .second, .val r1, .val r2, .val r3, .val r4, .val (.int b21), .val (.long inn), .second, .val (.int sm), .unset, .unset, .unset, .unset] [])) _
  refine XS.iload X0.here hx rfl (hb hby d3_203) rfl ?_
  refine XS.ifNo X0.here hx rfl (hb hby d3_205) rfl ((if0 _ _).trans (teq hc205).2) ?_
  refine XS.lloadN X0.here hx rfl (hb hby d3_208) rfl ?_
  refine XS.lstore X0.here hx rfl (hb hby d3_209) rfl (l' := #[.val (.ref pq), .val (.ref arr), .val (.long old), .second, .val (.long x), .second, .val (.long s'), .second, .val (.int ids), .val (.int fl), .val (.int (0 : Int32)), .val (.int b11), .val (.int b12), .val (.long jj), .second, .val (.long tt), .second, .val r1, .val r2, .val r3, .val r4, .val (.int b21), .val (.long inn), .second, .val (.int sm), .val (.long old), .second, .unset, .unset]) rfl ?_
  refine X0.ldc2Long hx hown (mvT hZ (ow hw 17 rfl)) (g := (mkF m 211 #[.val (.ref pq), .val (.ref arr), .val (.long old), .second, .val (.long x), .second, .val (.long s'), .second, .val (.int ids), .val (.int fl), .val (.int (0 : Int32)), .val (.int b11), .val (.int b12), .val (.long jj), .second, .val (.long tt), .second, .val r1, .val r2, .val r3, .val r4, .val (.int b21), .val (.long inn), .second, .val (.int sm), .val (.long old), .second, .unset, .unset] [])) rfl (hb hby d3_211) _ ?_
  refine XS.lstore X0.here hx rfl (hb hby d3_214) rfl (l' := #[.val (.ref pq), .val (.ref arr), .val (.long old), .second, .val (.long x), .second, .val (.long s'), .second, .val (.int ids), .val (.int fl), .val (.int (0 : Int32)), .val (.int b11), .val (.int b12), .val (.long jj), .second, .val (.long tt), .second, .val r1, .val r2, .val r3, .val r4, .val (.int b21), .val (.long inn), .second, .val (.int sm), .val (.long old), .second, .val (.long (-9223372036854775808 : Int64)), .second]) rfl ?_
  refine XS.iload X0.here hx rfl (hb hby d3_216) rfl ?_
  refine XS.ifNo X0.here hx rfl (hb hby d3_218) rfl ((if0 _ _).trans (teq (rfl : (0 : Int32) = (0 : Int32))).2) ?_
  refine XS.lload X0.here hx rfl (hb hby d3_221) rfl ?_
  show Steps p.tables e below (T0.setTop (mkF m 223 #[.val (.ref pq), .val (.ref arr), .val (.long old), .second, .val (.long x), .second, .val (.long s'), .second, .val (.int ids), .val (.int fl), .val (.int (0 : Int32)), .val (.int b11), .val (.int b12), .val (.long jj), .second, .val (.long tt), .second, .val r1, .val r2, .val r3, .val r4, .val (.int b21), .val (.long inn), .second, .val (.int sm), .val (.long old), .second, .val (.long (-9223372036854775808 : Int64)), .second] [(.long x)])) _
  refine XS.lload X0.here hx rfl (hb hby d3_223) rfl ?_
  refine XS.lloadN X0.here hx rfl (hb hby d3_225) rfl ?_
  refine X0.ldc2Long hx hown (mvT hZ (ow hw 17 rfl)) (g := (mkF m 226 #[.val (.ref pq), .val (.ref arr), .val (.long old), .second, .val (.long x), .second, .val (.long s'), .second, .val (.int ids), .val (.int fl), .val (.int (0 : Int32)), .val (.int b11), .val (.int b12), .val (.long jj), .second, .val (.long tt), .second, .val r1, .val r2, .val r3, .val r4, .val (.int b21), .val (.long inn), .second, .val (.int sm), .val (.long old), .second, .val (.long (-9223372036854775808 : Int64)), .second] [(.long old), (.long s'), (.long x)])) rfl (hb hby d3_226) _ ?_
  refine st1 _ ?_
  refine XS.ifNo X1.here hx rfl (hb hby d3_232) rfl ((if0 _ _).trans (feq hc232).1) ?_
  refine XS.lload X1.here hx rfl (hb hby d3_235) rfl ?_
  refine XS.lstore X1.here hx rfl (hb hby d3_237) rfl (l' := #[.val (.ref pq), .val (.ref arr), .val (.long old), .second, .val (.long x), .second, .val (.long s'), .second, .val (.int ids), .val (.int fl), .val (.int (0 : Int32)), .val (.int b11), .val (.int b12), .val (.long jj), .second, .val (.long tt), .second, .val r1, .val r2, .val r3, .val r4, .val (.int b21), .val (.long inn), .second, .val (.int sm), .val (.long x), .second, .val (.long (-9223372036854775808 : Int64)), .second]) rfl ?_
  refine XS.lload X1.here hx rfl (hb hby d3_239) rfl ?_
  refine XS.lstore X1.here hx rfl (hb hby d3_241) rfl (l' := #[.val (.ref pq), .val (.ref arr), .val (.long old), .second, .val (.long x), .second, .val (.long s'), .second, .val (.int ids), .val (.int fl), .val (.int (0 : Int32)), .val (.int b11), .val (.int b12), .val (.long jj), .second, .val (.long tt), .second, .val r1, .val r2, .val r3, .val r4, .val (.int b21), .val (.long inn), .second, .val (.int sm), .val (.long x), .second, .val (.long s'), .second]) rfl ?_
  show Steps p.tables e below (T1.setTop (mkF m 243 #[.val (.ref pq), .val (.ref arr), .val (.long old), .second, .val (.long x), .second, .val (.long s'), .second, .val (.int ids), .val (.int fl), .val (.int (0 : Int32)), .val (.int b11), .val (.int b12), .val (.long jj), .second, .val (.long tt), .second, .val r1, .val r2, .val r3, .val r4, .val (.int b21), .val (.long inn), .second, .val (.int sm), .val (.long x), .second, .val (.long s'), .second] [])) _
  refine XS.aloadN X1.here hx rfl (hb hby d3_243) rfl rfl ?_
  refine XS.iconst X1.here hx rfl (hb hby d3_244) ?_
  refine X1.laload hx (j := (0 : Int32)) (v := (.long v0)) (by rw [e1]; exact Arz2.1) (State.isArrayOf_alike hZ.alike Arz2.2.1) Arz2.2.2 hin3 hat3 (g := (mkF m 245 #[.val (.ref pq), .val (.ref arr), .val (.long old), .second, .val (.long x), .second, .val (.long s'), .second, .val (.int ids), .val (.int fl), .val (.int (0 : Int32)), .val (.int b11), .val (.int b12), .val (.long jj), .second, .val (.long tt), .second, .val r1, .val r2, .val r3, .val r4, .val (.int b21), .val (.long inn), .second, .val (.int sm), .val (.long x), .second, .val (.long s'), .second] [(.int (0 : Int32)), (.ref arr)])) rfl rfl (hb hby d3_245) _ ?_
  refine XS.aloadN X1.here hx rfl (hb hby d3_246) rfl rfl ?_
  refine XS.iconst X1.here hx rfl (hb hby d3_247) ?_
  refine X1.laload hx (j := (1 : Int32)) (v := (.long v1)) (by rw [e1]; exact Arz4.1) (State.isArrayOf_alike hZ.alike Arz4.2.1) Arz4.2.2 hin5 hat5 (g := (mkF m 248 #[.val (.ref pq), .val (.ref arr), .val (.long old), .second, .val (.long x), .second, .val (.long s'), .second, .val (.int ids), .val (.int fl), .val (.int (0 : Int32)), .val (.int b11), .val (.int b12), .val (.long jj), .second, .val (.long tt), .second, .val r1, .val r2, .val r3, .val r4, .val (.int b21), .val (.long inn), .second, .val (.int sm), .val (.long x), .second, .val (.long s'), .second] [(.int (1 : Int32)), (.ref arr), (.long v0)])) rfl rfl (hb hby d3_248) _ ?_
  refine XS.lload X1.here hx rfl (hb hby d3_249) rfl ?_
  refine XS.lload X1.here hx rfl (hb hby d3_251) rfl ?_
  refine st6 _ ?_
  show Steps p.tables e below (T6.setTop (mkF m 256 #[.val (.ref pq), .val (.ref arr), .val (.long old), .second, .val (.long x), .second, .val (.long s'), .second, .val (.int ids), .val (.int fl), .val (.int (0 : Int32)), .val (.int b11), .val (.int b12), .val (.long jj), .second, .val (.long tt), .second, .val r1, .val r2, .val r3, .val r4, .val (.int b21), .val (.long inn), .second, .val (.int sm), .val (.long x), .second, .val (.long s'), .second] [(.int (if Lex v0 v1 x s' then (1 : Int32) else 0))])) _
  refine XS.ifYes X6.here hx rfl (pc0 := 256) (pc' := 269) rfl (hb hby d3_256) rfl ((if0 _ _).trans (teq hc256).1) (by decide) (by decide) ?_
  exact kt
set_option maxRecDepth 65536 in
set_option maxHeartbeats 40000000 in
theorem s3_0_y1 {p : Program} {l : Launch} {e : Env} {s : State} {m : MethodId} {args : Array Value} {below : List Frame} {meth : Method} {c : Code} {T0 : State} {locs : List Loc} {cells slots : Nat} {Z : State} {a0 : Array Value} {h0 : Heap} {n0 : Nat} (pq : Addr) (arr : Addr) (k : ClassId) (old : Int64) (x : Int64) (s' : Int64) (ids : Int32) (fl : Int32) (b10 : Int32) (b11 : Int32) (b12 : Int32) (jj : Int64) (tt : Int64) (r1 : Value) (r2 : Value) (r3 : Value) (r4 : Value) (v0 : Int64) (v1 : Int64) (v2 : Int64) (v3 : Int64) (b21 : Int32) (inn : Int64) (sm : Int32)
    (X0 : Stand p l e rr_4_4_4_53 s m args below meth c T0 locs cells slots) (hx : p.tables.exec = Jvm.exec) (hZ : Z.Warmed39 s.vm) (hw : ∀ d ∈ tables_1, d.before a0 Z = true) (hby : c.code = method_4_code) (hml : c.maxLocals = 29) (hown : s.vm.findClass "com/example/keyed_work_queue/keyedworkqueue/PendingFoundPinLaw" = some m.cls) (e0 : T0.heap = h0) (hcl : cells ≤ rr_4_4_4_53.cells) (hsl : slots ≤ rr_4_4_4_53.slots) (Z0 : n0 ≤ h0.size) (N0 : Fr n0 locs) (g0_arr : n0 ≤ arr) (VA : Arv Z h0 arr k .long (4 : Int32) [(.long v0), (.long v1), (.long v2), (.long v3)] (.long (0 : Int64))) (hc205 : sm = (0 : Int32)) (hc232 : ¬ ((if Lex x s' old (-9223372036854775808 : Int64) then (1 : Int32) else 0) = (0 : Int32))) (hc256 : ¬ ((if Lex v0 v1 x s' then (1 : Int32) else 0) = (0 : Int32))) :
    ∃ (T' : State) (h' : Heap) (L' : List Loc) (s25 s26 s27 s28 : Slot), Stand p l e rr_4_4_4_53 s m args below meth c T' L' cells slots ∧ T'.heap = h' ∧ Fr n0 L' ∧ (Arv Z h' arr k .long (4 : Int32) [(.long x), (.long s'), (.long v2), (.long v3)] (.long (0 : Int64)) ∧ Keep h0 h' [arr]) ∧
      ∀ target, Steps p.tables e below (T'.setTop (mkF m 269 #[.val (.ref pq), .val (.ref arr), .val (.long old), .second, .val (.long x), .second, .val (.long s'), .second, .val (.int ids), .val (.int fl), .val (.int (0 : Int32)), .val (.int b11), .val (.int b12), .val (.long jj), .second, .val (.long tt), .second, .val r1, .val r2, .val r3, .val r4, .val (.int b21), .val (.long inn), .second, .val (.int sm), s25, s26, s27, s28] [])) target → Steps p.tables e below (T0.setTop (mkF m 203 #[.val (.ref pq), .val (.ref arr), .val (.long old), .second, .val (.long x), .second, .val (.long s'), .second, .val (.int ids), .val (.int fl), .val (.int (0 : Int32)), .val (.int b11), .val (.int b12), .val (.long jj), .second, .val (.long tt), .second, .val r1, .val r2, .val r3, .val r4, .val (.int b21), .val (.long inn), .second, .val (.int sm), .unset, .unset, .unset, .unset] [])) target := by
  obtain ⟨_, _, ⟨T1, L1, k1, n1⟩, -, X1, ⟨Lc1, hQ1, l1, y1, z1⟩, st1⟩ := Jvm.LawKit.callS X0 hx (y := nm_10) hown (mvT hZ (ow hw 62 rfl)) (mvT hZ (ow hw 63 rfl)) (mvT hZ (ow hw 20 rfl)) (mvT hZ (ow hw 64 rfl)) (by decide) (backOf (W := 0) (rm10 l Z a0 hw [] x s' old (-9223372036854775808 : Int64) h0 n0 Z0) hZ (ow hw 64 rfl) (ow hw 20 rfl) (by decide) (by decide)) (g := (mkF m 229 #[.val (.ref pq), .val (.ref arr), .val (.long old), .second, .val (.long x), .second, .val (.long s'), .second, .val (.int ids), .val (.int fl), .val (.int (0 : Int32)), .val (.int b11), .val (.int b12), .val (.long jj), .second, .val (.long tt), .second, .val r1, .val r2, .val r3, .val r4, .val (.int b21), .val (.long inn), .second, .val (.int sm), .val (.long old), .second, .val (.long (-9223372036854775808 : Int64)), .second] [(.long (-9223372036854775808 : Int64)), (.long old), (.long s'), (.long x)])) rfl (by rw [hml]; rfl) (argsL := [(.long x), (.long s'), (.long old), (.long (-9223372036854775808 : Int64))]) (rest := []) (lenOf pd_7 rfl) rfl (by show 2 * 0 + _ ≤ _; exact Nat.le_of_eq rfl) (hb hby d3_229) (fun _ _ => ⟨rfl, e0, hcl, hsl⟩)
  dsimp only [Pt.U, Pt.locs, Pt.cells, Pt.slots] at X1 l1 y1 z1 st1 hQ1
  subst l1 y1 z1
  obtain ⟨rfl, N1q, e1⟩ := hQ1
  have N1 := Fr.app N0 N1q
  obtain ⟨clz2, Arz2, qz2, Sz2, Nz2, Hz2, Gz2⟩ := id VA
  have hin3 : ¬ ((0 : Int32) < 0 ∨ clz2.slots.size ≤ ((0 : Int32)).toNatClampNeg) := inb_of Sz2 ⟨by decide, by decide⟩
  have hat3 : clz2.slots[((0 : Int32)).toNatClampNeg]? = some (.long v0) := Hz2.at hin3 rfl
  obtain ⟨clz4, Arz4, qz4, Sz4, Nz4, Hz4, Gz4⟩ := id VA
  have hin5 : ¬ ((1 : Int32) < 0 ∨ clz4.slots.size ≤ ((1 : Int32)).toNatClampNeg) := inb_of Sz4 ⟨by decide, by decide⟩
  have hat5 : clz4.slots[((1 : Int32)).toNatClampNeg]? = some (.long v1) := Hz4.at hin5 rfl
  obtain ⟨_, _, ⟨T6, L6, k6, n6⟩, -, X6, ⟨Lc6, hQ6, l6, y6, z6⟩, st6⟩ := Jvm.LawKit.callS X1 hx (y := nm_10) hown (mvT hZ (ow hw 62 rfl)) (mvT hZ (ow hw 63 rfl)) (mvT hZ (ow hw 20 rfl)) (mvT hZ (ow hw 64 rfl)) (by decide) (backOf (W := 0) (rm10 l Z a0 hw [] v0 v1 x s' h0 n0 Z0) hZ (ow hw 64 rfl) (ow hw 20 rfl) (by decide) (by decide)) (g := (mkF m 253 #[.val (.ref pq), .val (.ref arr), .val (.long old), .second, .val (.long x), .second, .val (.long s'), .second, .val (.int ids), .val (.int fl), .val (.int (0 : Int32)), .val (.int b11), .val (.int b12), .val (.long jj), .second, .val (.long tt), .second, .val r1, .val r2, .val r3, .val r4, .val (.int b21), .val (.long inn), .second, .val (.int sm), .val (.long x), .second, .val (.long s'), .second] [(.long s'), (.long x), (.long v1), (.long v0)])) rfl (by rw [hml]; rfl) (argsL := [(.long v0), (.long v1), (.long x), (.long s')]) (rest := []) (lenOf pd_7 rfl) rfl (by show 2 * 0 + _ ≤ _; exact Nat.le_of_eq rfl) (hb hby d3_253) (fun _ _ => ⟨rfl, e1, hcl, hsl⟩)
  dsimp only [Pt.U, Pt.locs, Pt.cells, Pt.slots] at X6 l6 y6 z6 st6 hQ6
  subst l6 y6 z6
  obtain ⟨rfl, N6q, e6⟩ := hQ6
  have N6 := Fr.app N1 N6q
  obtain ⟨clz7, Arz7, qz7, Sz7, Nz7, Hz7, Gz7⟩ := id VA
  have hin8 : ¬ ((0 : Int32) < 0 ∨ clz7.slots.size ≤ ((0 : Int32)).toNatClampNeg) := inb_of Sz7 ⟨by decide, by decide⟩
  obtain ⟨T8, h8, X8, e8, W8, st8⟩ := stJ X6 hx hZ e6 Arz7 (j := (0 : Int32)) hin8 (g := (mkF m 263 #[.val (.ref pq), .val (.ref arr), .val (.long old), .second, .val (.long x), .second, .val (.long s'), .second, .val (.int ids), .val (.int fl), .val (.int (0 : Int32)), .val (.int b11), .val (.int b12), .val (.long jj), .second, .val (.long tt), .second, .val r1, .val r2, .val r3, .val r4, .val (.int b21), .val (.long inn), .second, .val (.int sm), .val (.long x), .second, .val (.long s'), .second] [(.long x), (.int (0 : Int32)), (.ref arr)])) rfl rfl (hb hby d3_263)
  have V8 : Arv Z h8 arr k .long (4 : Int32) [(.long x), (.long v1), (.long v2), (.long v3)] (.long (0 : Int64)) := Arv.set Arz7 qz7 Sz7 Nz7 Hz7 Gz7 rfl W8 0 rfl (Nat.le_of_ble_eq_true rfl)
  have N8 := Fr.snoc X8 N6 g0_arr
  obtain ⟨clz9, Arz9, qz9, Sz9, Nz9, Hz9, Gz9⟩ := id V8
  have hin10 : ¬ ((1 : Int32) < 0 ∨ clz9.slots.size ≤ ((1 : Int32)).toNatClampNeg) := inb_of Sz9 ⟨by decide, by decide⟩
  obtain ⟨T10, h10, X10, e10, W10, st10⟩ := stJ X8 hx hZ e8 Arz9 (j := (1 : Int32)) hin10 (g := (mkF m 268 #[.val (.ref pq), .val (.ref arr), .val (.long old), .second, .val (.long x), .second, .val (.long s'), .second, .val (.int ids), .val (.int fl), .val (.int (0 : Int32)), .val (.int b11), .val (.int b12), .val (.long jj), .second, .val (.long tt), .second, .val r1, .val r2, .val r3, .val r4, .val (.int b21), .val (.long inn), .second, .val (.int sm), .val (.long x), .second, .val (.long s'), .second] [(.long s'), (.int (1 : Int32)), (.ref arr)])) rfl rfl (hb hby d3_268)
  have V10 : Arv Z h10 arr k .long (4 : Int32) [(.long x), (.long s'), (.long v2), (.long v3)] (.long (0 : Int64)) := Arv.set Arz9 qz9 Sz9 Nz9 Hz9 Gz9 rfl W10 1 rfl (Nat.le_of_ble_eq_true rfl)
  have N10 := Fr.snoc X10 N8 g0_arr
  have kp11 : Keep h0 h10 [arr] := (((Keep.refl h0 [arr]).wr W8 (Or.inl (List.mem_of_getElem? (i := 0) rfl))).wr W10 (Or.inl (List.mem_of_getElem? (i := 0) rfl)))
  refine ⟨T10, _, _, (.val (.long x)), (.second), (.val (.long s')), (.second), X10, e10, N10, ⟨V10, kp11⟩, fun target kt => ?_⟩
  show Steps p.tables e below (T0.setTop (mkF m 203 #[.val (.ref pq), .val (.ref arr), .val (.long old), .second, .val (.long x), .second, .val (.long s'), .second, .val (.int ids), .val (.int fl), .val (.int (0 : Int32)), .val (.int b11), .val (.int b12), .val (.long jj), .second, .val (.long tt), .second, .val r1, .val r2, .val r3, .val r4, .val (.int b21), .val (.long inn), .second, .val (.int sm), .unset, .unset, .unset, .unset] [])) _
  refine XS.iload X0.here hx rfl (hb hby d3_203) rfl ?_
  refine XS.ifNo X0.here hx rfl (hb hby d3_205) rfl ((if0 _ _).trans (teq hc205).2) ?_
  refine XS.lloadN X0.here hx rfl (hb hby d3_208) rfl ?_
  refine XS.lstore X0.here hx rfl (hb hby d3_209) rfl (l' := #[.val (.ref pq), .val (.ref arr), .val (.long old), .second, .val (.long x), .second, .val (.long s'), .second, .val (.int ids), .val (.int fl), .val (.int (0 : Int32)), .val (.int b11), .val (.int b12), .val (.long jj), .second, .val (.long tt), .second, .val r1, .val r2, .val r3, .val r4, .val (.int b21), .val (.long inn), .second, .val (.int sm), .val (.long old), .second, .unset, .unset]) rfl ?_
  refine X0.ldc2Long hx hown (mvT hZ (ow hw 17 rfl)) (g := (mkF m 211 #[.val (.ref pq), .val (.ref arr), .val (.long old), .second, .val (.long x), .second, .val (.long s'), .second, .val (.int ids), .val (.int fl), .val (.int (0 : Int32)), .val (.int b11), .val (.int b12), .val (.long jj), .second, .val (.long tt), .second, .val r1, .val r2, .val r3, .val r4, .val (.int b21), .val (.long inn), .second, .val (.int sm), .val (.long old), .second, .unset, .unset] [])) rfl (hb hby d3_211) _ ?_
  refine XS.lstore X0.here hx rfl (hb hby d3_214) rfl (l' := #[.val (.ref pq), .val (.ref arr), .val (.long old), .second, .val (.long x), .second, .val (.long s'), .second, .val (.int ids), .val (.int fl), .val (.int (0 : Int32)), .val (.int b11), .val (.int b12), .val (.long jj), .second, .val (.long tt), .second, .val r1, .val r2, .val r3, .val r4, .val (.int b21), .val (.long inn), .second, .val (.int sm), .val (.long old), .second, .val (.long (-9223372036854775808 : Int64)), .second]) rfl ?_
  refine XS.iload X0.here hx rfl (hb hby d3_216) rfl ?_
  refine XS.ifNo X0.here hx rfl (hb hby d3_218) rfl ((if0 _ _).trans (teq (rfl : (0 : Int32) = (0 : Int32))).2) ?_
  refine XS.lload X0.here hx rfl (hb hby d3_221) rfl ?_
  show Steps p.tables e below (T0.setTop (mkF m 223 #[.val (.ref pq), .val (.ref arr), .val (.long old), .second, .val (.long x), .second, .val (.long s'), .second, .val (.int ids), .val (.int fl), .val (.int (0 : Int32)), .val (.int b11), .val (.int b12), .val (.long jj), .second, .val (.long tt), .second, .val r1, .val r2, .val r3, .val r4, .val (.int b21), .val (.long inn), .second, .val (.int sm), .val (.long old), .second, .val (.long (-9223372036854775808 : Int64)), .second] [(.long x)])) _
  refine XS.lload X0.here hx rfl (hb hby d3_223) rfl ?_
  refine XS.lloadN X0.here hx rfl (hb hby d3_225) rfl ?_
  refine X0.ldc2Long hx hown (mvT hZ (ow hw 17 rfl)) (g := (mkF m 226 #[.val (.ref pq), .val (.ref arr), .val (.long old), .second, .val (.long x), .second, .val (.long s'), .second, .val (.int ids), .val (.int fl), .val (.int (0 : Int32)), .val (.int b11), .val (.int b12), .val (.long jj), .second, .val (.long tt), .second, .val r1, .val r2, .val r3, .val r4, .val (.int b21), .val (.long inn), .second, .val (.int sm), .val (.long old), .second, .val (.long (-9223372036854775808 : Int64)), .second] [(.long old), (.long s'), (.long x)])) rfl (hb hby d3_226) _ ?_
  refine st1 _ ?_
  refine XS.ifNo X1.here hx rfl (hb hby d3_232) rfl ((if0 _ _).trans (feq hc232).1) ?_
  refine XS.lload X1.here hx rfl (hb hby d3_235) rfl ?_
  refine XS.lstore X1.here hx rfl (hb hby d3_237) rfl (l' := #[.val (.ref pq), .val (.ref arr), .val (.long old), .second, .val (.long x), .second, .val (.long s'), .second, .val (.int ids), .val (.int fl), .val (.int (0 : Int32)), .val (.int b11), .val (.int b12), .val (.long jj), .second, .val (.long tt), .second, .val r1, .val r2, .val r3, .val r4, .val (.int b21), .val (.long inn), .second, .val (.int sm), .val (.long x), .second, .val (.long (-9223372036854775808 : Int64)), .second]) rfl ?_
  refine XS.lload X1.here hx rfl (hb hby d3_239) rfl ?_
  refine XS.lstore X1.here hx rfl (hb hby d3_241) rfl (l' := #[.val (.ref pq), .val (.ref arr), .val (.long old), .second, .val (.long x), .second, .val (.long s'), .second, .val (.int ids), .val (.int fl), .val (.int (0 : Int32)), .val (.int b11), .val (.int b12), .val (.long jj), .second, .val (.long tt), .second, .val r1, .val r2, .val r3, .val r4, .val (.int b21), .val (.long inn), .second, .val (.int sm), .val (.long x), .second, .val (.long s'), .second]) rfl ?_
  show Steps p.tables e below (T1.setTop (mkF m 243 #[.val (.ref pq), .val (.ref arr), .val (.long old), .second, .val (.long x), .second, .val (.long s'), .second, .val (.int ids), .val (.int fl), .val (.int (0 : Int32)), .val (.int b11), .val (.int b12), .val (.long jj), .second, .val (.long tt), .second, .val r1, .val r2, .val r3, .val r4, .val (.int b21), .val (.long inn), .second, .val (.int sm), .val (.long x), .second, .val (.long s'), .second] [])) _
  refine XS.aloadN X1.here hx rfl (hb hby d3_243) rfl rfl ?_
  refine XS.iconst X1.here hx rfl (hb hby d3_244) ?_
  refine X1.laload hx (j := (0 : Int32)) (v := (.long v0)) (by rw [e1]; exact Arz2.1) (State.isArrayOf_alike hZ.alike Arz2.2.1) Arz2.2.2 hin3 hat3 (g := (mkF m 245 #[.val (.ref pq), .val (.ref arr), .val (.long old), .second, .val (.long x), .second, .val (.long s'), .second, .val (.int ids), .val (.int fl), .val (.int (0 : Int32)), .val (.int b11), .val (.int b12), .val (.long jj), .second, .val (.long tt), .second, .val r1, .val r2, .val r3, .val r4, .val (.int b21), .val (.long inn), .second, .val (.int sm), .val (.long x), .second, .val (.long s'), .second] [(.int (0 : Int32)), (.ref arr)])) rfl rfl (hb hby d3_245) _ ?_
  refine XS.aloadN X1.here hx rfl (hb hby d3_246) rfl rfl ?_
  refine XS.iconst X1.here hx rfl (hb hby d3_247) ?_
  refine X1.laload hx (j := (1 : Int32)) (v := (.long v1)) (by rw [e1]; exact Arz4.1) (State.isArrayOf_alike hZ.alike Arz4.2.1) Arz4.2.2 hin5 hat5 (g := (mkF m 248 #[.val (.ref pq), .val (.ref arr), .val (.long old), .second, .val (.long x), .second, .val (.long s'), .second, .val (.int ids), .val (.int fl), .val (.int (0 : Int32)), .val (.int b11), .val (.int b12), .val (.long jj), .second, .val (.long tt), .second, .val r1, .val r2, .val r3, .val r4, .val (.int b21), .val (.long inn), .second, .val (.int sm), .val (.long x), .second, .val (.long s'), .second] [(.int (1 : Int32)), (.ref arr), (.long v0)])) rfl rfl (hb hby d3_248) _ ?_
  refine XS.lload X1.here hx rfl (hb hby d3_249) rfl ?_
  refine XS.lload X1.here hx rfl (hb hby d3_251) rfl ?_
  refine st6 _ ?_
  show Steps p.tables e below (T6.setTop (mkF m 256 #[.val (.ref pq), .val (.ref arr), .val (.long old), .second, .val (.long x), .second, .val (.long s'), .second, .val (.int ids), .val (.int fl), .val (.int (0 : Int32)), .val (.int b11), .val (.int b12), .val (.long jj), .second, .val (.long tt), .second, .val r1, .val r2, .val r3, .val r4, .val (.int b21), .val (.long inn), .second, .val (.int sm), .val (.long x), .second, .val (.long s'), .second] [(.int (if Lex v0 v1 x s' then (1 : Int32) else 0))])) _
  refine XS.ifNo X6.here hx rfl (hb hby d3_256) rfl ((if0 _ _).trans (feq hc256).1) ?_
  refine XS.aloadN X6.here hx rfl (hb hby d3_259) rfl rfl ?_
  refine XS.iconst X6.here hx rfl (hb hby d3_260) ?_
  refine XS.lload X6.here hx rfl (hb hby d3_261) rfl ?_
  refine st8 _ ?_
  refine XS.aloadN X8.here hx rfl (hb hby d3_264) rfl rfl ?_
  refine XS.iconst X8.here hx rfl (hb hby d3_265) ?_
  refine XS.lload X8.here hx rfl (hb hby d3_266) rfl ?_
  refine st10 _ ?_
  exact kt
set_option maxRecDepth 65536 in
set_option maxHeartbeats 40000000 in
theorem s3_0 {p : Program} {l : Launch} {e : Env} {s : State} {m : MethodId} {args : Array Value} {below : List Frame} {meth : Method} {c : Code} {T0 : State} {locs : List Loc} {cells slots : Nat} {Z : State} {a0 : Array Value} {h0 : Heap} {n0 : Nat} (pq : Addr) (arr : Addr) (k : ClassId) (old : Int64) (x : Int64) (s' : Int64) (ids : Int32) (fl : Int32) (b10 : Int32) (b11 : Int32) (b12 : Int32) (jj : Int64) (tt : Int64) (r1 : Value) (r2 : Value) (r3 : Value) (r4 : Value) (v0 : Int64) (v1 : Int64) (v2 : Int64) (v3 : Int64) (b21 : Int32) (inn : Int64) (sm : Int32)
    (X0 : Stand p l e rr_4_4_4_53 s m args below meth c T0 locs cells slots) (hx : p.tables.exec = Jvm.exec) (hZ : Z.Warmed39 s.vm) (hw : ∀ d ∈ tables_1, d.before a0 Z = true) (hby : c.code = method_4_code) (hml : c.maxLocals = 29) (hown : s.vm.findClass "com/example/keyed_work_queue/keyedworkqueue/PendingFoundPinLaw" = some m.cls) (e0 : T0.heap = h0) (hcl : cells ≤ rr_4_4_4_53.cells) (hsl : slots ≤ rr_4_4_4_53.slots) (Z0 : n0 ≤ h0.size) (N0 : Fr n0 locs) (g0_arr : n0 ≤ arr) (VA : Arv Z h0 arr k .long (4 : Int32) [(.long v0), (.long v1), (.long v2), (.long v3)] (.long (0 : Int64))) :
    ∃ (T' : State) (h' : Heap) (L' : List Loc) (s25 s26 s27 s28 : Slot), Stand p l e rr_4_4_4_53 s m args below meth c T' L' cells slots ∧ T'.heap = h' ∧ Fr n0 L' ∧ (Arv Z h' arr k .long (4 : Int32) [(.long (if ¬ (sm = 0) then (v0, v1) else own_raise (v0, v1) (own_cand old (some (x, s')))).1), (.long (if ¬ (sm = 0) then (v0, v1) else own_raise (v0, v1) (own_cand old (some (x, s')))).2), (.long v2), (.long v3)] (.long (0 : Int64)) ∧ Keep h0 h' [arr]) ∧
      ∀ target, Steps p.tables e below (T'.setTop (mkF m 269 #[.val (.ref pq), .val (.ref arr), .val (.long old), .second, .val (.long x), .second, .val (.long s'), .second, .val (.int ids), .val (.int fl), .val (.int (0 : Int32)), .val (.int b11), .val (.int b12), .val (.long jj), .second, .val (.long tt), .second, .val r1, .val r2, .val r3, .val r4, .val (.int b21), .val (.long inn), .second, .val (.int sm), s25, s26, s27, s28] [])) target → Steps p.tables e below (T0.setTop (mkF m 203 #[.val (.ref pq), .val (.ref arr), .val (.long old), .second, .val (.long x), .second, .val (.long s'), .second, .val (.int ids), .val (.int fl), .val (.int (0 : Int32)), .val (.int b11), .val (.int b12), .val (.long jj), .second, .val (.long tt), .second, .val r1, .val r2, .val r3, .val r4, .val (.int b21), .val (.long inn), .second, .val (.int sm), .unset, .unset, .unset, .unset] [])) target := by
  by_cases c0 : sm = 0
  · rw [if_neg (fun z => z c0)]
    by_cases c1 : x < old
    · rw [show own_cand old (some (x, s')) = (x, s') from if_pos c1]
      by_cases c2 : Lex v0 v1 x s'
      · rw [show own_raise (v0, v1) (x, s') = (x, s') from if_pos (c2.imp id fun z => ⟨z.1.symm, z.2⟩)]; exact s3_0_y1 pq arr k old x s' ids fl b10 b11 b12 jj tt r1 r2 r3 r4 v0 v1 v2 v3 b21 inn sm X0 hx hZ hw hby hml hown e0 hcl hsl Z0 N0 g0_arr VA c0 (by rw [if_pos (show Lex x s' old (-9223372036854775808 : Int64) from Or.inl c1)]; decide) (by rw [if_pos c2]; decide)
      · rw [show own_raise (v0, v1) (x, s') = (v0, v1) from if_neg (fun z => c2 (z.imp id fun z => ⟨z.1.symm, z.2⟩))]; exact s3_0_y0 pq arr k old x s' ids fl b10 b11 b12 jj tt r1 r2 r3 r4 v0 v1 v2 v3 b21 inn sm X0 hx hZ hw hby hml hown e0 hcl hsl Z0 N0 g0_arr VA c0 (by rw [if_pos (show Lex x s' old (-9223372036854775808 : Int64) from Or.inl c1)]; decide) (if_neg c2)
    · rw [show own_cand old (some (x, s')) = (old, (-9223372036854775808 : Int64)) from if_neg c1]
      by_cases c2 : Lex v0 v1 old (-9223372036854775808 : Int64)
      · rw [show own_raise (v0, v1) (old, (-9223372036854775808 : Int64)) = (old, (-9223372036854775808 : Int64)) from if_pos (c2.imp id fun z => ⟨z.1.symm, z.2⟩)]; exact s3_0_n1 pq arr k old x s' ids fl b10 b11 b12 jj tt r1 r2 r3 r4 v0 v1 v2 v3 b21 inn sm X0 hx hZ hw hby hml hown e0 hcl hsl Z0 N0 g0_arr VA c0 (if_neg (fun z : Lex x s' old (-9223372036854775808 : Int64) => z.elim c1 fun z => own_nmin _ z.2)) (by rw [if_pos c2]; decide)
      · rw [show own_raise (v0, v1) (old, (-9223372036854775808 : Int64)) = (v0, v1) from if_neg (fun z => c2 (z.imp id fun z => ⟨z.1.symm, z.2⟩))]; exact s3_0_n0 pq arr k old x s' ids fl b10 b11 b12 jj tt r1 r2 r3 r4 v0 v1 v2 v3 b21 inn sm X0 hx hZ hw hby hml hown e0 hcl hsl Z0 N0 g0_arr VA c0 (if_neg (fun z : Lex x s' old (-9223372036854775808 : Int64) => z.elim c1 fun z => own_nmin _ z.2)) (if_neg c2)
  · rw [if_pos c0]; exact s3_0_k pq arr k old x s' ids fl b10 b11 b12 jj tt r1 r2 r3 r4 v0 v1 v2 v3 b21 inn sm X0 hx hZ hw hby hml hown e0 hcl hsl Z0 N0 g0_arr VA c0
set_option maxRecDepth 65536 in
set_option maxHeartbeats 40000000 in
theorem s3_1_k {p : Program} {l : Launch} {e : Env} {s : State} {m : MethodId} {args : Array Value} {below : List Frame} {meth : Method} {c : Code} {T0 : State} {locs : List Loc} {cells slots : Nat} {Z : State} {a0 : Array Value} {h0 : Heap} {n0 : Nat} (pq : Addr) (arr : Addr) (k : ClassId) (old : Int64) (x : Int64) (s' : Int64) (ids : Int32) (fl : Int32) (b10 : Int32) (b11 : Int32) (b12 : Int32) (jj : Int64) (tt : Int64) (r1 : Value) (r2 : Value) (r3 : Value) (r4 : Value) (v0 : Int64) (v1 : Int64) (v2 : Int64) (v3 : Int64) (b21 : Int32) (inn : Int64) (sm : Int32)
    (X0 : Stand p l e rr_4_4_4_53 s m args below meth c T0 locs cells slots) (hx : p.tables.exec = Jvm.exec) (hZ : Z.Warmed39 s.vm) (hw : ∀ d ∈ tables_1, d.before a0 Z = true) (hby : c.code = method_4_code) (hml : c.maxLocals = 29) (hown : s.vm.findClass "com/example/keyed_work_queue/keyedworkqueue/PendingFoundPinLaw" = some m.cls) (e0 : T0.heap = h0) (hcl : cells ≤ rr_4_4_4_53.cells) (hsl : slots ≤ rr_4_4_4_53.slots) (Z0 : n0 ≤ h0.size) (N0 : Fr n0 locs) (g0_arr : n0 ≤ arr) (VA : Arv Z h0 arr k .long (4 : Int32) [(.long v0), (.long v1), (.long v2), (.long v3)] (.long (0 : Int64))) (hc205 : ¬ (sm = (0 : Int32))) :
    ∃ (T' : State) (h' : Heap) (L' : List Loc) (s25 s26 s27 s28 : Slot), Stand p l e rr_4_4_4_53 s m args below meth c T' L' cells slots ∧ T'.heap = h' ∧ Fr n0 L' ∧ (Arv Z h' arr k .long (4 : Int32) [(.long v0), (.long v1), (.long v2), (.long v3)] (.long (0 : Int64)) ∧ Keep h0 h' [arr]) ∧
      ∀ target, Steps p.tables e below (T'.setTop (mkF m 269 #[.val (.ref pq), .val (.ref arr), .val (.long old), .second, .val (.long x), .second, .val (.long s'), .second, .val (.int ids), .val (.int fl), .val (.int (1 : Int32)), .val (.int b11), .val (.int b12), .val (.long jj), .second, .val (.long tt), .second, .val r1, .val r2, .val r3, .val r4, .val (.int b21), .val (.long inn), .second, .val (.int sm), s25, s26, s27, s28] [])) target → Steps p.tables e below (T0.setTop (mkF m 203 #[.val (.ref pq), .val (.ref arr), .val (.long old), .second, .val (.long x), .second, .val (.long s'), .second, .val (.int ids), .val (.int fl), .val (.int (1 : Int32)), .val (.int b11), .val (.int b12), .val (.long jj), .second, .val (.long tt), .second, .val r1, .val r2, .val r3, .val r4, .val (.int b21), .val (.long inn), .second, .val (.int sm), .unset, .unset, .unset, .unset] [])) target := by
  have kp1 : Keep h0 h0 [arr] := (Keep.refl h0 [arr])
  refine ⟨T0, _, _, (.unset), (.unset), (.unset), (.unset), X0, e0, N0, ⟨VA, kp1⟩, fun target kt => ?_⟩
  show Steps p.tables e below (T0.setTop (mkF m 203 #[.val (.ref pq), .val (.ref arr), .val (.long old), .second, .val (.long x), .second, .val (.long s'), .second, .val (.int ids), .val (.int fl), .val (.int (1 : Int32)), .val (.int b11), .val (.int b12), .val (.long jj), .second, .val (.long tt), .second, .val r1, .val r2, .val r3, .val r4, .val (.int b21), .val (.long inn), .second, .val (.int sm), .unset, .unset, .unset, .unset] [])) _
  refine XS.iload X0.here hx rfl (hb hby d3_203) rfl ?_
  refine XS.ifYes X0.here hx rfl (pc0 := 205) (pc' := 269) rfl (hb hby d3_205) rfl ((if0 _ _).trans (feq hc205).2) (by decide) (by decide) ?_
  exact kt
set_option maxRecDepth 65536 in
set_option maxHeartbeats 40000000 in
theorem s3_1_f0 {p : Program} {l : Launch} {e : Env} {s : State} {m : MethodId} {args : Array Value} {below : List Frame} {meth : Method} {c : Code} {T0 : State} {locs : List Loc} {cells slots : Nat} {Z : State} {a0 : Array Value} {h0 : Heap} {n0 : Nat} (pq : Addr) (arr : Addr) (k : ClassId) (old : Int64) (x : Int64) (s' : Int64) (ids : Int32) (fl : Int32) (b10 : Int32) (b11 : Int32) (b12 : Int32) (jj : Int64) (tt : Int64) (r1 : Value) (r2 : Value) (r3 : Value) (r4 : Value) (v0 : Int64) (v1 : Int64) (v2 : Int64) (v3 : Int64) (b21 : Int32) (inn : Int64) (sm : Int32)
    (X0 : Stand p l e rr_4_4_4_53 s m args below meth c T0 locs cells slots) (hx : p.tables.exec = Jvm.exec) (hZ : Z.Warmed39 s.vm) (hw : ∀ d ∈ tables_1, d.before a0 Z = true) (hby : c.code = method_4_code) (hml : c.maxLocals = 29) (hown : s.vm.findClass "com/example/keyed_work_queue/keyedworkqueue/PendingFoundPinLaw" = some m.cls) (e0 : T0.heap = h0) (hcl : cells ≤ rr_4_4_4_53.cells) (hsl : slots ≤ rr_4_4_4_53.slots) (Z0 : n0 ≤ h0.size) (N0 : Fr n0 locs) (g0_arr : n0 ≤ arr) (VA : Arv Z h0 arr k .long (4 : Int32) [(.long v0), (.long v1), (.long v2), (.long v3)] (.long (0 : Int64))) (hc205 : sm = (0 : Int32)) (hc256 : (if Lex v0 v1 old (-9223372036854775808 : Int64) then (1 : Int32) else 0) = (0 : Int32)) :
    ∃ (T' : State) (h' : Heap) (L' : List Loc) (s25 s26 s27 s28 : Slot), Stand p l e rr_4_4_4_53 s m args below meth c T' L' cells slots ∧ T'.heap = h' ∧ Fr n0 L' ∧ (Arv Z h' arr k .long (4 : Int32) [(.long v0), (.long v1), (.long v2), (.long v3)] (.long (0 : Int64)) ∧ Keep h0 h' [arr]) ∧
      ∀ target, Steps p.tables e below (T'.setTop (mkF m 269 #[.val (.ref pq), .val (.ref arr), .val (.long old), .second, .val (.long x), .second, .val (.long s'), .second, .val (.int ids), .val (.int fl), .val (.int (1 : Int32)), .val (.int b11), .val (.int b12), .val (.long jj), .second, .val (.long tt), .second, .val r1, .val r2, .val r3, .val r4, .val (.int b21), .val (.long inn), .second, .val (.int sm), s25, s26, s27, s28] [])) target → Steps p.tables e below (T0.setTop (mkF m 203 #[.val (.ref pq), .val (.ref arr), .val (.long old), .second, .val (.long x), .second, .val (.long s'), .second, .val (.int ids), .val (.int fl), .val (.int (1 : Int32)), .val (.int b11), .val (.int b12), .val (.long jj), .second, .val (.long tt), .second, .val r1, .val r2, .val r3, .val r4, .val (.int b21), .val (.long inn), .second, .val (.int sm), .unset, .unset, .unset, .unset] [])) target := by
  obtain ⟨clz1, Arz1, qz1, Sz1, Nz1, Hz1, Gz1⟩ := id VA
  have hin2 : ¬ ((0 : Int32) < 0 ∨ clz1.slots.size ≤ ((0 : Int32)).toNatClampNeg) := inb_of Sz1 ⟨by decide, by decide⟩
  have hat2 : clz1.slots[((0 : Int32)).toNatClampNeg]? = some (.long v0) := Hz1.at hin2 rfl
  obtain ⟨clz3, Arz3, qz3, Sz3, Nz3, Hz3, Gz3⟩ := id VA
  have hin4 : ¬ ((1 : Int32) < 0 ∨ clz3.slots.size ≤ ((1 : Int32)).toNatClampNeg) := inb_of Sz3 ⟨by decide, by decide⟩
  have hat4 : clz3.slots[((1 : Int32)).toNatClampNeg]? = some (.long v1) := Hz3.at hin4 rfl
  obtain ⟨_, _, ⟨T5, L5, k5, n5⟩, -, X5, ⟨Lc5, hQ5, l5, y5, z5⟩, st5⟩ := Jvm.LawKit.callS X0 hx (y := nm_10) hown (mvT hZ (ow hw 62 rfl)) (mvT hZ (ow hw 63 rfl)) (mvT hZ (ow hw 20 rfl)) (mvT hZ (ow hw 64 rfl)) (by decide) (backOf (W := 0) (rm10 l Z a0 hw [] v0 v1 old (-9223372036854775808 : Int64) h0 n0 Z0) hZ (ow hw 64 rfl) (ow hw 20 rfl) (by decide) (by decide)) (g := (mkF m 253 #[.val (.ref pq), .val (.ref arr), .val (.long old), .second, .val (.long x), .second, .val (.long s'), .second, .val (.int ids), .val (.int fl), .val (.int (1 : Int32)), .val (.int b11), .val (.int b12), .val (.long jj), .second, .val (.long tt), .second, .val r1, .val r2, .val r3, .val r4, .val (.int b21), .val (.long inn), .second, .val (.int sm), .val (.long old), .second, .val (.long (-9223372036854775808 : Int64)), .second] [(.long (-9223372036854775808 : Int64)), (.long old), (.long v1), (.long v0)])) rfl (by rw [hml]; rfl) (argsL := [(.long v0), (.long v1), (.long old), (.long (-9223372036854775808 : Int64))]) (rest := []) (lenOf pd_7 rfl) rfl (by show 2 * 0 + _ ≤ _; exact Nat.le_of_eq rfl) (hb hby d3_253) (fun _ _ => ⟨rfl, e0, hcl, hsl⟩)
  dsimp only [Pt.U, Pt.locs, Pt.cells, Pt.slots] at X5 l5 y5 z5 st5 hQ5
  subst l5 y5 z5
  obtain ⟨rfl, N5q, e5⟩ := hQ5
  have N5 := Fr.app N0 N5q
  have kp6 : Keep h0 h0 [arr] := (Keep.refl h0 [arr])
  refine ⟨T5, _, _, (.val (.long old)), (.second), (.val (.long (-9223372036854775808 : Int64))), (.second), X5, e5, N5, ⟨VA, kp6⟩, fun target kt => ?_⟩
  show Steps p.tables e below (T0.setTop (mkF m 203 #[.val (.ref pq), .val (.ref arr), .val (.long old), .second, .val (.long x), .second, .val (.long s'), .second, .val (.int ids), .val (.int fl), .val (.int (1 : Int32)), .val (.int b11), .val (.int b12), .val (.long jj), .second, .val (.long tt), .second, .val r1, .val r2, .val r3, .val r4, .val (.int b21), .val (.long inn), .second, .val (.int sm), .unset, .unset, .unset, .unset] [])) _
  refine XS.iload X0.here hx rfl (hb hby d3_203) rfl ?_
  refine XS.ifNo X0.here hx rfl (hb hby d3_205) rfl ((if0 _ _).trans (teq hc205).2) ?_
  refine XS.lloadN X0.here hx rfl (hb hby d3_208) rfl ?_
  refine XS.lstore X0.here hx rfl (hb hby d3_209) rfl (l' := #[.val (.ref pq), .val (.ref arr), .val (.long old), .second, .val (.long x), .second, .val (.long s'), .second, .val (.int ids), .val (.int fl), .val (.int (1 : Int32)), .val (.int b11), .val (.int b12), .val (.long jj), .second, .val (.long tt), .second, .val r1, .val r2, .val r3, .val r4, .val (.int b21), .val (.long inn), .second, .val (.int sm), .val (.long old), .second, .unset, .unset]) rfl ?_
  refine X0.ldc2Long hx hown (mvT hZ (ow hw 17 rfl)) (g := (mkF m 211 #[.val (.ref pq), .val (.ref arr), .val (.long old), .second, .val (.long x), .second, .val (.long s'), .second, .val (.int ids), .val (.int fl), .val (.int (1 : Int32)), .val (.int b11), .val (.int b12), .val (.long jj), .second, .val (.long tt), .second, .val r1, .val r2, .val r3, .val r4, .val (.int b21), .val (.long inn), .second, .val (.int sm), .val (.long old), .second, .unset, .unset] [])) rfl (hb hby d3_211) _ ?_
  refine XS.lstore X0.here hx rfl (hb hby d3_214) rfl (l' := #[.val (.ref pq), .val (.ref arr), .val (.long old), .second, .val (.long x), .second, .val (.long s'), .second, .val (.int ids), .val (.int fl), .val (.int (1 : Int32)), .val (.int b11), .val (.int b12), .val (.long jj), .second, .val (.long tt), .second, .val r1, .val r2, .val r3, .val r4, .val (.int b21), .val (.long inn), .second, .val (.int sm), .val (.long old), .second, .val (.long (-9223372036854775808 : Int64)), .second]) rfl ?_
  refine XS.iload X0.here hx rfl (hb hby d3_216) rfl ?_
  refine XS.ifYes X0.here hx rfl (pc0 := 218) (pc' := 243) rfl (hb hby d3_218) rfl ((if0 _ _).trans (feq ((by decide) : ¬ ((1 : Int32) = (0 : Int32)))).2) (by decide) (by decide) ?_
  refine XS.aloadN X0.here hx rfl (hb hby d3_243) rfl rfl ?_
  show Steps p.tables e below (T0.setTop (mkF m 244 #[.val (.ref pq), .val (.ref arr), .val (.long old), .second, .val (.long x), .second, .val (.long s'), .second, .val (.int ids), .val (.int fl), .val (.int (1 : Int32)), .val (.int b11), .val (.int b12), .val (.long jj), .second, .val (.long tt), .second, .val r1, .val r2, .val r3, .val r4, .val (.int b21), .val (.long inn), .second, .val (.int sm), .val (.long old), .second, .val (.long (-9223372036854775808 : Int64)), .second] [(.ref arr)])) _
  refine XS.iconst X0.here hx rfl (hb hby d3_244) ?_
  refine X0.laload hx (j := (0 : Int32)) (v := (.long v0)) (by rw [e0]; exact Arz1.1) (State.isArrayOf_alike hZ.alike Arz1.2.1) Arz1.2.2 hin2 hat2 (g := (mkF m 245 #[.val (.ref pq), .val (.ref arr), .val (.long old), .second, .val (.long x), .second, .val (.long s'), .second, .val (.int ids), .val (.int fl), .val (.int (1 : Int32)), .val (.int b11), .val (.int b12), .val (.long jj), .second, .val (.long tt), .second, .val r1, .val r2, .val r3, .val r4, .val (.int b21), .val (.long inn), .second, .val (.int sm), .val (.long old), .second, .val (.long (-9223372036854775808 : Int64)), .second] [(.int (0 : Int32)), (.ref arr)])) rfl rfl (hb hby d3_245) _ ?_
  refine XS.aloadN X0.here hx rfl (hb hby d3_246) rfl rfl ?_
  refine XS.iconst X0.here hx rfl (hb hby d3_247) ?_
  refine X0.laload hx (j := (1 : Int32)) (v := (.long v1)) (by rw [e0]; exact Arz3.1) (State.isArrayOf_alike hZ.alike Arz3.2.1) Arz3.2.2 hin4 hat4 (g := (mkF m 248 #[.val (.ref pq), .val (.ref arr), .val (.long old), .second, .val (.long x), .second, .val (.long s'), .second, .val (.int ids), .val (.int fl), .val (.int (1 : Int32)), .val (.int b11), .val (.int b12), .val (.long jj), .second, .val (.long tt), .second, .val r1, .val r2, .val r3, .val r4, .val (.int b21), .val (.long inn), .second, .val (.int sm), .val (.long old), .second, .val (.long (-9223372036854775808 : Int64)), .second] [(.int (1 : Int32)), (.ref arr), (.long v0)])) rfl rfl (hb hby d3_248) _ ?_
  refine XS.lload X0.here hx rfl (hb hby d3_249) rfl ?_
  refine XS.lload X0.here hx rfl (hb hby d3_251) rfl ?_
  refine st5 _ ?_
  refine XS.ifYes X5.here hx rfl (pc0 := 256) (pc' := 269) rfl (hb hby d3_256) rfl ((if0 _ _).trans (teq hc256).1) (by decide) (by decide) ?_
  exact kt
set_option maxRecDepth 65536 in
set_option maxHeartbeats 40000000 in
theorem s3_1_f1 {p : Program} {l : Launch} {e : Env} {s : State} {m : MethodId} {args : Array Value} {below : List Frame} {meth : Method} {c : Code} {T0 : State} {locs : List Loc} {cells slots : Nat} {Z : State} {a0 : Array Value} {h0 : Heap} {n0 : Nat} (pq : Addr) (arr : Addr) (k : ClassId) (old : Int64) (x : Int64) (s' : Int64) (ids : Int32) (fl : Int32) (b10 : Int32) (b11 : Int32) (b12 : Int32) (jj : Int64) (tt : Int64) (r1 : Value) (r2 : Value) (r3 : Value) (r4 : Value) (v0 : Int64) (v1 : Int64) (v2 : Int64) (v3 : Int64) (b21 : Int32) (inn : Int64) (sm : Int32)
    (X0 : Stand p l e rr_4_4_4_53 s m args below meth c T0 locs cells slots) (hx : p.tables.exec = Jvm.exec) (hZ : Z.Warmed39 s.vm) (hw : ∀ d ∈ tables_1, d.before a0 Z = true) (hby : c.code = method_4_code) (hml : c.maxLocals = 29) (hown : s.vm.findClass "com/example/keyed_work_queue/keyedworkqueue/PendingFoundPinLaw" = some m.cls) (e0 : T0.heap = h0) (hcl : cells ≤ rr_4_4_4_53.cells) (hsl : slots ≤ rr_4_4_4_53.slots) (Z0 : n0 ≤ h0.size) (N0 : Fr n0 locs) (g0_arr : n0 ≤ arr) (VA : Arv Z h0 arr k .long (4 : Int32) [(.long v0), (.long v1), (.long v2), (.long v3)] (.long (0 : Int64))) (hc205 : sm = (0 : Int32)) (hc256 : ¬ ((if Lex v0 v1 old (-9223372036854775808 : Int64) then (1 : Int32) else 0) = (0 : Int32))) :
    ∃ (T' : State) (h' : Heap) (L' : List Loc) (s25 s26 s27 s28 : Slot), Stand p l e rr_4_4_4_53 s m args below meth c T' L' cells slots ∧ T'.heap = h' ∧ Fr n0 L' ∧ (Arv Z h' arr k .long (4 : Int32) [(.long old), (.long (-9223372036854775808 : Int64)), (.long v2), (.long v3)] (.long (0 : Int64)) ∧ Keep h0 h' [arr]) ∧
      ∀ target, Steps p.tables e below (T'.setTop (mkF m 269 #[.val (.ref pq), .val (.ref arr), .val (.long old), .second, .val (.long x), .second, .val (.long s'), .second, .val (.int ids), .val (.int fl), .val (.int (1 : Int32)), .val (.int b11), .val (.int b12), .val (.long jj), .second, .val (.long tt), .second, .val r1, .val r2, .val r3, .val r4, .val (.int b21), .val (.long inn), .second, .val (.int sm), s25, s26, s27, s28] [])) target → Steps p.tables e below (T0.setTop (mkF m 203 #[.val (.ref pq), .val (.ref arr), .val (.long old), .second, .val (.long x), .second, .val (.long s'), .second, .val (.int ids), .val (.int fl), .val (.int (1 : Int32)), .val (.int b11), .val (.int b12), .val (.long jj), .second, .val (.long tt), .second, .val r1, .val r2, .val r3, .val r4, .val (.int b21), .val (.long inn), .second, .val (.int sm), .unset, .unset, .unset, .unset] [])) target := by
  obtain ⟨clz1, Arz1, qz1, Sz1, Nz1, Hz1, Gz1⟩ := id VA
  have hin2 : ¬ ((0 : Int32) < 0 ∨ clz1.slots.size ≤ ((0 : Int32)).toNatClampNeg) := inb_of Sz1 ⟨by decide, by decide⟩
  have hat2 : clz1.slots[((0 : Int32)).toNatClampNeg]? = some (.long v0) := Hz1.at hin2 rfl
  obtain ⟨clz3, Arz3, qz3, Sz3, Nz3, Hz3, Gz3⟩ := id VA
  have hin4 : ¬ ((1 : Int32) < 0 ∨ clz3.slots.size ≤ ((1 : Int32)).toNatClampNeg) := inb_of Sz3 ⟨by decide, by decide⟩
  have hat4 : clz3.slots[((1 : Int32)).toNatClampNeg]? = some (.long v1) := Hz3.at hin4 rfl
  obtain ⟨_, _, ⟨T5, L5, k5, n5⟩, -, X5, ⟨Lc5, hQ5, l5, y5, z5⟩, st5⟩ := Jvm.LawKit.callS X0 hx (y := nm_10) hown (mvT hZ (ow hw 62 rfl)) (mvT hZ (ow hw 63 rfl)) (mvT hZ (ow hw 20 rfl)) (mvT hZ (ow hw 64 rfl)) (by decide) (backOf (W := 0) (rm10 l Z a0 hw [] v0 v1 old (-9223372036854775808 : Int64) h0 n0 Z0) hZ (ow hw 64 rfl) (ow hw 20 rfl) (by decide) (by decide)) (g := (mkF m 253 #[.val (.ref pq), .val (.ref arr), .val (.long old), .second, .val (.long x), .second, .val (.long s'), .second, .val (.int ids), .val (.int fl), .val (.int (1 : Int32)), .val (.int b11), .val (.int b12), .val (.long jj), .second, .val (.long tt), .second, .val r1, .val r2, .val r3, .val r4, .val (.int b21), .val (.long inn), .second, .val (.int sm), .val (.long old), .second, .val (.long (-9223372036854775808 : Int64)), .second] [(.long (-9223372036854775808 : Int64)), (.long old), (.long v1), (.long v0)])) rfl (by rw [hml]; rfl) (argsL := [(.long v0), (.long v1), (.long old), (.long (-9223372036854775808 : Int64))]) (rest := []) (lenOf pd_7 rfl) rfl (by show 2 * 0 + _ ≤ _; exact Nat.le_of_eq rfl) (hb hby d3_253) (fun _ _ => ⟨rfl, e0, hcl, hsl⟩)
  dsimp only [Pt.U, Pt.locs, Pt.cells, Pt.slots] at X5 l5 y5 z5 st5 hQ5
  subst l5 y5 z5
  obtain ⟨rfl, N5q, e5⟩ := hQ5
  have N5 := Fr.app N0 N5q
  obtain ⟨clz6, Arz6, qz6, Sz6, Nz6, Hz6, Gz6⟩ := id VA
  have hin7 : ¬ ((0 : Int32) < 0 ∨ clz6.slots.size ≤ ((0 : Int32)).toNatClampNeg) := inb_of Sz6 ⟨by decide, by decide⟩
  obtain ⟨T7, h7, X7, e7, W7, st7⟩ := stJ X5 hx hZ e5 Arz6 (j := (0 : Int32)) hin7 (g := (mkF m 263 #[.val (.ref pq), .val (.ref arr), .val (.long old), .second, .val (.long x), .second, .val (.long s'), .second, .val (.int ids), .val (.int fl), .val (.int (1 : Int32)), .val (.int b11), .val (.int b12), .val (.long jj), .second, .val (.long tt), .second, .val r1, .val r2, .val r3, .val r4, .val (.int b21), .val (.long inn), .second, .val (.int sm), .val (.long old), .second, .val (.long (-9223372036854775808 : Int64)), .second] [(.long old), (.int (0 : Int32)), (.ref arr)])) rfl rfl (hb hby d3_263)
  have V7 : Arv Z h7 arr k .long (4 : Int32) [(.long old), (.long v1), (.long v2), (.long v3)] (.long (0 : Int64)) := Arv.set Arz6 qz6 Sz6 Nz6 Hz6 Gz6 rfl W7 0 rfl (Nat.le_of_ble_eq_true rfl)
  have N7 := Fr.snoc X7 N5 g0_arr
  obtain ⟨clz8, Arz8, qz8, Sz8, Nz8, Hz8, Gz8⟩ := id V7
  have hin9 : ¬ ((1 : Int32) < 0 ∨ clz8.slots.size ≤ ((1 : Int32)).toNatClampNeg) := inb_of Sz8 ⟨by decide, by decide⟩
  obtain ⟨T9, h9, X9, e9, W9, st9⟩ := stJ X7 hx hZ e7 Arz8 (j := (1 : Int32)) hin9 (g := (mkF m 268 #[.val (.ref pq), .val (.ref arr), .val (.long old), .second, .val (.long x), .second, .val (.long s'), .second, .val (.int ids), .val (.int fl), .val (.int (1 : Int32)), .val (.int b11), .val (.int b12), .val (.long jj), .second, .val (.long tt), .second, .val r1, .val r2, .val r3, .val r4, .val (.int b21), .val (.long inn), .second, .val (.int sm), .val (.long old), .second, .val (.long (-9223372036854775808 : Int64)), .second] [(.long (-9223372036854775808 : Int64)), (.int (1 : Int32)), (.ref arr)])) rfl rfl (hb hby d3_268)
  have V9 : Arv Z h9 arr k .long (4 : Int32) [(.long old), (.long (-9223372036854775808 : Int64)), (.long v2), (.long v3)] (.long (0 : Int64)) := Arv.set Arz8 qz8 Sz8 Nz8 Hz8 Gz8 rfl W9 1 rfl (Nat.le_of_ble_eq_true rfl)
  have N9 := Fr.snoc X9 N7 g0_arr
  have kp10 : Keep h0 h9 [arr] := (((Keep.refl h0 [arr]).wr W7 (Or.inl (List.mem_of_getElem? (i := 0) rfl))).wr W9 (Or.inl (List.mem_of_getElem? (i := 0) rfl)))
  refine ⟨T9, _, _, (.val (.long old)), (.second), (.val (.long (-9223372036854775808 : Int64))), (.second), X9, e9, N9, ⟨V9, kp10⟩, fun target kt => ?_⟩
  show Steps p.tables e below (T0.setTop (mkF m 203 #[.val (.ref pq), .val (.ref arr), .val (.long old), .second, .val (.long x), .second, .val (.long s'), .second, .val (.int ids), .val (.int fl), .val (.int (1 : Int32)), .val (.int b11), .val (.int b12), .val (.long jj), .second, .val (.long tt), .second, .val r1, .val r2, .val r3, .val r4, .val (.int b21), .val (.long inn), .second, .val (.int sm), .unset, .unset, .unset, .unset] [])) _
  refine XS.iload X0.here hx rfl (hb hby d3_203) rfl ?_
  refine XS.ifNo X0.here hx rfl (hb hby d3_205) rfl ((if0 _ _).trans (teq hc205).2) ?_
  refine XS.lloadN X0.here hx rfl (hb hby d3_208) rfl ?_
  refine XS.lstore X0.here hx rfl (hb hby d3_209) rfl (l' := #[.val (.ref pq), .val (.ref arr), .val (.long old), .second, .val (.long x), .second, .val (.long s'), .second, .val (.int ids), .val (.int fl), .val (.int (1 : Int32)), .val (.int b11), .val (.int b12), .val (.long jj), .second, .val (.long tt), .second, .val r1, .val r2, .val r3, .val r4, .val (.int b21), .val (.long inn), .second, .val (.int sm), .val (.long old), .second, .unset, .unset]) rfl ?_
  refine X0.ldc2Long hx hown (mvT hZ (ow hw 17 rfl)) (g := (mkF m 211 #[.val (.ref pq), .val (.ref arr), .val (.long old), .second, .val (.long x), .second, .val (.long s'), .second, .val (.int ids), .val (.int fl), .val (.int (1 : Int32)), .val (.int b11), .val (.int b12), .val (.long jj), .second, .val (.long tt), .second, .val r1, .val r2, .val r3, .val r4, .val (.int b21), .val (.long inn), .second, .val (.int sm), .val (.long old), .second, .unset, .unset] [])) rfl (hb hby d3_211) _ ?_
  refine XS.lstore X0.here hx rfl (hb hby d3_214) rfl (l' := #[.val (.ref pq), .val (.ref arr), .val (.long old), .second, .val (.long x), .second, .val (.long s'), .second, .val (.int ids), .val (.int fl), .val (.int (1 : Int32)), .val (.int b11), .val (.int b12), .val (.long jj), .second, .val (.long tt), .second, .val r1, .val r2, .val r3, .val r4, .val (.int b21), .val (.long inn), .second, .val (.int sm), .val (.long old), .second, .val (.long (-9223372036854775808 : Int64)), .second]) rfl ?_
  refine XS.iload X0.here hx rfl (hb hby d3_216) rfl ?_
  refine XS.ifYes X0.here hx rfl (pc0 := 218) (pc' := 243) rfl (hb hby d3_218) rfl ((if0 _ _).trans (feq ((by decide) : ¬ ((1 : Int32) = (0 : Int32)))).2) (by decide) (by decide) ?_
  refine XS.aloadN X0.here hx rfl (hb hby d3_243) rfl rfl ?_
  show Steps p.tables e below (T0.setTop (mkF m 244 #[.val (.ref pq), .val (.ref arr), .val (.long old), .second, .val (.long x), .second, .val (.long s'), .second, .val (.int ids), .val (.int fl), .val (.int (1 : Int32)), .val (.int b11), .val (.int b12), .val (.long jj), .second, .val (.long tt), .second, .val r1, .val r2, .val r3, .val r4, .val (.int b21), .val (.long inn), .second, .val (.int sm), .val (.long old), .second, .val (.long (-9223372036854775808 : Int64)), .second] [(.ref arr)])) _
  refine XS.iconst X0.here hx rfl (hb hby d3_244) ?_
  refine X0.laload hx (j := (0 : Int32)) (v := (.long v0)) (by rw [e0]; exact Arz1.1) (State.isArrayOf_alike hZ.alike Arz1.2.1) Arz1.2.2 hin2 hat2 (g := (mkF m 245 #[.val (.ref pq), .val (.ref arr), .val (.long old), .second, .val (.long x), .second, .val (.long s'), .second, .val (.int ids), .val (.int fl), .val (.int (1 : Int32)), .val (.int b11), .val (.int b12), .val (.long jj), .second, .val (.long tt), .second, .val r1, .val r2, .val r3, .val r4, .val (.int b21), .val (.long inn), .second, .val (.int sm), .val (.long old), .second, .val (.long (-9223372036854775808 : Int64)), .second] [(.int (0 : Int32)), (.ref arr)])) rfl rfl (hb hby d3_245) _ ?_
  refine XS.aloadN X0.here hx rfl (hb hby d3_246) rfl rfl ?_
  refine XS.iconst X0.here hx rfl (hb hby d3_247) ?_
  refine X0.laload hx (j := (1 : Int32)) (v := (.long v1)) (by rw [e0]; exact Arz3.1) (State.isArrayOf_alike hZ.alike Arz3.2.1) Arz3.2.2 hin4 hat4 (g := (mkF m 248 #[.val (.ref pq), .val (.ref arr), .val (.long old), .second, .val (.long x), .second, .val (.long s'), .second, .val (.int ids), .val (.int fl), .val (.int (1 : Int32)), .val (.int b11), .val (.int b12), .val (.long jj), .second, .val (.long tt), .second, .val r1, .val r2, .val r3, .val r4, .val (.int b21), .val (.long inn), .second, .val (.int sm), .val (.long old), .second, .val (.long (-9223372036854775808 : Int64)), .second] [(.int (1 : Int32)), (.ref arr), (.long v0)])) rfl rfl (hb hby d3_248) _ ?_
  refine XS.lload X0.here hx rfl (hb hby d3_249) rfl ?_
  refine XS.lload X0.here hx rfl (hb hby d3_251) rfl ?_
  refine st5 _ ?_
  refine XS.ifNo X5.here hx rfl (hb hby d3_256) rfl ((if0 _ _).trans (feq hc256).1) ?_
  show Steps p.tables e below (T5.setTop (mkF m 259 #[.val (.ref pq), .val (.ref arr), .val (.long old), .second, .val (.long x), .second, .val (.long s'), .second, .val (.int ids), .val (.int fl), .val (.int (1 : Int32)), .val (.int b11), .val (.int b12), .val (.long jj), .second, .val (.long tt), .second, .val r1, .val r2, .val r3, .val r4, .val (.int b21), .val (.long inn), .second, .val (.int sm), .val (.long old), .second, .val (.long (-9223372036854775808 : Int64)), .second] [])) _
  refine XS.aloadN X5.here hx rfl (hb hby d3_259) rfl rfl ?_
  refine XS.iconst X5.here hx rfl (hb hby d3_260) ?_
  refine XS.lload X5.here hx rfl (hb hby d3_261) rfl ?_
  refine st7 _ ?_
  refine XS.aloadN X7.here hx rfl (hb hby d3_264) rfl rfl ?_
  refine XS.iconst X7.here hx rfl (hb hby d3_265) ?_
  refine XS.lload X7.here hx rfl (hb hby d3_266) rfl ?_
  refine st9 _ ?_
  exact kt
set_option maxRecDepth 65536 in
set_option maxHeartbeats 40000000 in
theorem s3_1 {p : Program} {l : Launch} {e : Env} {s : State} {m : MethodId} {args : Array Value} {below : List Frame} {meth : Method} {c : Code} {T0 : State} {locs : List Loc} {cells slots : Nat} {Z : State} {a0 : Array Value} {h0 : Heap} {n0 : Nat} (pq : Addr) (arr : Addr) (k : ClassId) (old : Int64) (x : Int64) (s' : Int64) (ids : Int32) (fl : Int32) (b10 : Int32) (b11 : Int32) (b12 : Int32) (jj : Int64) (tt : Int64) (r1 : Value) (r2 : Value) (r3 : Value) (r4 : Value) (v0 : Int64) (v1 : Int64) (v2 : Int64) (v3 : Int64) (b21 : Int32) (inn : Int64) (sm : Int32)
    (X0 : Stand p l e rr_4_4_4_53 s m args below meth c T0 locs cells slots) (hx : p.tables.exec = Jvm.exec) (hZ : Z.Warmed39 s.vm) (hw : ∀ d ∈ tables_1, d.before a0 Z = true) (hby : c.code = method_4_code) (hml : c.maxLocals = 29) (hown : s.vm.findClass "com/example/keyed_work_queue/keyedworkqueue/PendingFoundPinLaw" = some m.cls) (e0 : T0.heap = h0) (hcl : cells ≤ rr_4_4_4_53.cells) (hsl : slots ≤ rr_4_4_4_53.slots) (Z0 : n0 ≤ h0.size) (N0 : Fr n0 locs) (g0_arr : n0 ≤ arr) (VA : Arv Z h0 arr k .long (4 : Int32) [(.long v0), (.long v1), (.long v2), (.long v3)] (.long (0 : Int64))) :
    ∃ (T' : State) (h' : Heap) (L' : List Loc) (s25 s26 s27 s28 : Slot), Stand p l e rr_4_4_4_53 s m args below meth c T' L' cells slots ∧ T'.heap = h' ∧ Fr n0 L' ∧ (Arv Z h' arr k .long (4 : Int32) [(.long (if ¬ (sm = 0) then (v0, v1) else own_raise (v0, v1) (own_cand old none)).1), (.long (if ¬ (sm = 0) then (v0, v1) else own_raise (v0, v1) (own_cand old none)).2), (.long v2), (.long v3)] (.long (0 : Int64)) ∧ Keep h0 h' [arr]) ∧
      ∀ target, Steps p.tables e below (T'.setTop (mkF m 269 #[.val (.ref pq), .val (.ref arr), .val (.long old), .second, .val (.long x), .second, .val (.long s'), .second, .val (.int ids), .val (.int fl), .val (.int (1 : Int32)), .val (.int b11), .val (.int b12), .val (.long jj), .second, .val (.long tt), .second, .val r1, .val r2, .val r3, .val r4, .val (.int b21), .val (.long inn), .second, .val (.int sm), s25, s26, s27, s28] [])) target → Steps p.tables e below (T0.setTop (mkF m 203 #[.val (.ref pq), .val (.ref arr), .val (.long old), .second, .val (.long x), .second, .val (.long s'), .second, .val (.int ids), .val (.int fl), .val (.int (1 : Int32)), .val (.int b11), .val (.int b12), .val (.long jj), .second, .val (.long tt), .second, .val r1, .val r2, .val r3, .val r4, .val (.int b21), .val (.long inn), .second, .val (.int sm), .unset, .unset, .unset, .unset] [])) target := by
  by_cases c0 : sm = 0
  · rw [if_neg (fun z => z c0)]
    rw [show own_cand old none = (old, (-9223372036854775808 : Int64)) from rfl]
    by_cases c2 : Lex v0 v1 old (-9223372036854775808 : Int64)
    · rw [show own_raise (v0, v1) (old, (-9223372036854775808 : Int64)) = (old, (-9223372036854775808 : Int64)) from if_pos (c2.imp id fun z => ⟨z.1.symm, z.2⟩)]; exact s3_1_f1 pq arr k old x s' ids fl b10 b11 b12 jj tt r1 r2 r3 r4 v0 v1 v2 v3 b21 inn sm X0 hx hZ hw hby hml hown e0 hcl hsl Z0 N0 g0_arr VA c0  (by rw [if_pos c2]; decide)
    · rw [show own_raise (v0, v1) (old, (-9223372036854775808 : Int64)) = (v0, v1) from if_neg (fun z => c2 (z.imp id fun z => ⟨z.1.symm, z.2⟩))]; exact s3_1_f0 pq arr k old x s' ids fl b10 b11 b12 jj tt r1 r2 r3 r4 v0 v1 v2 v3 b21 inn sm X0 hx hZ hw hby hml hown e0 hcl hsl Z0 N0 g0_arr VA c0  (if_neg c2)
  · rw [if_pos c0]; exact s3_1_k pq arr k old x s' ids fl b10 b11 b12 jj tt r1 r2 r3 r4 v0 v1 v2 v3 b21 inn sm X0 hx hZ hw hby hml hown e0 hcl hsl Z0 N0 g0_arr VA c0
theorem d3_269 : decode method_4_code 269 = .ok (.iload 11, 2) := by decide +kernel
theorem d3_271 : decode method_4_code 271 = .ok (.ifCond .eq 8, 3) := by decide +kernel
theorem d3_279 : decode method_4_code 279 = .ok (.aload_n 1, 1) := by decide +kernel
theorem d3_280 : decode method_4_code 280 = .ok (.iconst 2, 1) := by decide +kernel
theorem d3_281 : decode method_4_code 281 = .ok (.lconst 1, 1) := by decide +kernel
theorem d3_282 : decode method_4_code 282 = .ok (.lastore, 1) := by decide +kernel
theorem d3_283 : decode method_4_code 283 = .ok (.aload_n 1, 1) := by decide +kernel
theorem d3_284 : decode method_4_code 284 = .ok (.iconst 3, 1) := by decide +kernel
theorem d3_285 : decode method_4_code 285 = .ok (.lload 22, 2) := by decide +kernel
theorem d3_287 : decode method_4_code 287 = .ok (.lastore, 1) := by decide +kernel
theorem d3_288 : decode method_4_code 288 = .ok (.goto 11, 3) := by decide +kernel
set_option maxRecDepth 65536 in
set_option maxHeartbeats 40000000 in
theorem s4_0_t {p : Program} {l : Launch} {e : Env} {s : State} {m : MethodId} {args : Array Value} {below : List Frame} {meth : Method} {c : Code} {T0 : State} {locs : List Loc} {cells slots : Nat} {Z : State} {a0 : Array Value} {h0 : Heap} {n0 : Nat} (pq : Addr) (arr : Addr) (k : ClassId) (old : Int64) (x : Int64) (s' : Int64) (ids : Int32) (fl : Int32) (b10 : Int32) (b11 : Int32) (b12 : Int32) (jj : Int64) (tt : Int64) (r1 : Value) (r2 : Value) (r3 : Value) (r4 : Value) (v0 : Int64) (v1 : Int64) (v2 : Int64) (v3 : Int64) (b21 : Int32) (inn : Int64) (sm : Int32) (s25 : Slot) (s26 : Slot) (s27 : Slot) (s28 : Slot)
    (X0 : Stand p l e rr_4_4_4_53 s m args below meth c T0 locs cells slots) (hx : p.tables.exec = Jvm.exec) (hZ : Z.Warmed39 s.vm) (hw : ∀ d ∈ tables_1, d.before a0 Z = true) (hby : c.code = method_4_code) (hml : c.maxLocals = 29) (hown : s.vm.findClass "com/example/keyed_work_queue/keyedworkqueue/PendingFoundPinLaw" = some m.cls) (e0 : T0.heap = h0) (hcl : cells ≤ rr_4_4_4_53.cells) (hsl : slots ≤ rr_4_4_4_53.slots) (Z0 : n0 ≤ h0.size) (N0 : Fr n0 locs) (g0_arr : n0 ≤ arr) (VA : Arv Z h0 arr k .long (4 : Int32) [(.long v0), (.long v1), (.long v2), (.long v3)] (.long (0 : Int64))) :
    ∃ (T' : State) (h' : Heap) (L' : List Loc), Stand p l e rr_4_4_4_53 s m args below meth c T' L' cells slots ∧ T'.heap = h' ∧ Fr n0 L' ∧ (Arv Z h' arr k .long (4 : Int32) [(.long v0), (.long v1), (.long (1 : Int64)), (.long inn)] (.long (0 : Int64)) ∧ Keep h0 h' [arr]) ∧
      ∀ target, Steps p.tables e below (T'.setTop (mkF m 299 #[.val (.ref pq), .val (.ref arr), .val (.long old), .second, .val (.long x), .second, .val (.long s'), .second, .val (.int ids), .val (.int fl), .val (.int b10), .val (.int (0 : Int32)), .val (.int b12), .val (.long jj), .second, .val (.long tt), .second, .val r1, .val r2, .val r3, .val r4, .val (.int b21), .val (.long inn), .second, .val (.int sm), s25, s26, s27, s28] [])) target → Steps p.tables e below (T0.setTop (mkF m 269 #[.val (.ref pq), .val (.ref arr), .val (.long old), .second, .val (.long x), .second, .val (.long s'), .second, .val (.int ids), .val (.int fl), .val (.int b10), .val (.int (0 : Int32)), .val (.int b12), .val (.long jj), .second, .val (.long tt), .second, .val r1, .val r2, .val r3, .val r4, .val (.int b21), .val (.long inn), .second, .val (.int sm), s25, s26, s27, s28] [])) target := by
  obtain ⟨clz1, Arz1, qz1, Sz1, Nz1, Hz1, Gz1⟩ := id VA
  have hin2 : ¬ ((2 : Int32) < 0 ∨ clz1.slots.size ≤ ((2 : Int32)).toNatClampNeg) := inb_of Sz1 ⟨by decide, by decide⟩
  obtain ⟨T2, h2, X2, e2, W2, st2⟩ := stJ X0 hx hZ e0 Arz1 (j := (2 : Int32)) hin2 (g := (mkF m 282 #[.val (.ref pq), .val (.ref arr), .val (.long old), .second, .val (.long x), .second, .val (.long s'), .second, .val (.int ids), .val (.int fl), .val (.int b10), .val (.int (0 : Int32)), .val (.int b12), .val (.long jj), .second, .val (.long tt), .second, .val r1, .val r2, .val r3, .val r4, .val (.int b21), .val (.long inn), .second, .val (.int sm), s25, s26, s27, s28] [(.long (1 : Int64)), (.int (2 : Int32)), (.ref arr)])) rfl rfl (hb hby d3_282)
  have V2 : Arv Z h2 arr k .long (4 : Int32) [(.long v0), (.long v1), (.long (1 : Int64)), (.long v3)] (.long (0 : Int64)) := Arv.set Arz1 qz1 Sz1 Nz1 Hz1 Gz1 rfl W2 2 rfl (Nat.le_of_ble_eq_true rfl)
  have N2 := Fr.snoc X2 N0 g0_arr
  obtain ⟨clz3, Arz3, qz3, Sz3, Nz3, Hz3, Gz3⟩ := id V2
  have hin4 : ¬ ((3 : Int32) < 0 ∨ clz3.slots.size ≤ ((3 : Int32)).toNatClampNeg) := inb_of Sz3 ⟨by decide, by decide⟩
  obtain ⟨T4, h4, X4, e4, W4, st4⟩ := stJ X2 hx hZ e2 Arz3 (j := (3 : Int32)) hin4 (g := (mkF m 287 #[.val (.ref pq), .val (.ref arr), .val (.long old), .second, .val (.long x), .second, .val (.long s'), .second, .val (.int ids), .val (.int fl), .val (.int b10), .val (.int (0 : Int32)), .val (.int b12), .val (.long jj), .second, .val (.long tt), .second, .val r1, .val r2, .val r3, .val r4, .val (.int b21), .val (.long inn), .second, .val (.int sm), s25, s26, s27, s28] [(.long inn), (.int (3 : Int32)), (.ref arr)])) rfl rfl (hb hby d3_287)
  have V4 : Arv Z h4 arr k .long (4 : Int32) [(.long v0), (.long v1), (.long (1 : Int64)), (.long inn)] (.long (0 : Int64)) := Arv.set Arz3 qz3 Sz3 Nz3 Hz3 Gz3 rfl W4 3 rfl (Nat.le_of_ble_eq_true rfl)
  have N4 := Fr.snoc X4 N2 g0_arr
  have kp5 : Keep h0 h4 [arr] := (((Keep.refl h0 [arr]).wr W2 (Or.inl (List.mem_of_getElem? (i := 0) rfl))).wr W4 (Or.inl (List.mem_of_getElem? (i := 0) rfl)))
  refine ⟨T4, _, _, X4, e4, N4, ⟨V4, kp5⟩, fun target kt => ?_⟩
  show Steps p.tables e below (T0.setTop (mkF m 269 #[.val (.ref pq), .val (.ref arr), .val (.long old), .second, .val (.long x), .second, .val (.long s'), .second, .val (.int ids), .val (.int fl), .val (.int b10), .val (.int (0 : Int32)), .val (.int b12), .val (.long jj), .second, .val (.long tt), .second, .val r1, .val r2, .val r3, .val r4, .val (.int b21), .val (.long inn), .second, .val (.int sm), s25, s26, s27, s28] [])) _
  refine XS.iload X0.here hx rfl (hb hby d3_269) rfl ?_
  refine XS.ifYes X0.here hx rfl (pc0 := 271) (pc' := 279) rfl (hb hby d3_271) rfl ((if0 _ _).trans (teq (rfl : (0 : Int32) = (0 : Int32))).1) (by decide) (by decide) ?_
  refine XS.aloadN X0.here hx rfl (hb hby d3_279) rfl rfl ?_
  refine XS.iconst X0.here hx rfl (hb hby d3_280) ?_
  refine XS.lconst X0.here hx rfl (hb hby d3_281) ?_
  refine st2 _ ?_
  refine XS.aloadN X2.here hx rfl (hb hby d3_283) rfl rfl ?_
  refine XS.iconst X2.here hx rfl (hb hby d3_284) ?_
  refine XS.lload X2.here hx rfl (hb hby d3_285) rfl ?_
  show Steps p.tables e below (T2.setTop (mkF m 287 #[.val (.ref pq), .val (.ref arr), .val (.long old), .second, .val (.long x), .second, .val (.long s'), .second, .val (.int ids), .val (.int fl), .val (.int b10), .val (.int (0 : Int32)), .val (.int b12), .val (.long jj), .second, .val (.long tt), .second, .val r1, .val r2, .val r3, .val r4, .val (.int b21), .val (.long inn), .second, .val (.int sm), s25, s26, s27, s28] [(.long inn), (.int (3 : Int32)), (.ref arr)])) _
  refine st4 _ ?_
  refine XS.goto X4.here hx rfl (pc0 := 288) (pc' := 299) rfl (hb hby d3_288) (by decide) (by decide) ?_
  exact kt
theorem d3_274 : decode method_4_code 274 = .ok (.iload 24, 2) := by decide +kernel
theorem d3_276 : decode method_4_code 276 = .ok (.ifCond .eq 15, 3) := by decide +kernel
set_option maxRecDepth 65536 in
set_option maxHeartbeats 40000000 in
theorem s4_1_ff {p : Program} {l : Launch} {e : Env} {s : State} {m : MethodId} {args : Array Value} {below : List Frame} {meth : Method} {c : Code} {T0 : State} {locs : List Loc} {cells slots : Nat} {Z : State} {a0 : Array Value} {h0 : Heap} {n0 : Nat} (pq : Addr) (arr : Addr) (k : ClassId) (old : Int64) (x : Int64) (s' : Int64) (ids : Int32) (fl : Int32) (b10 : Int32) (b11 : Int32) (b12 : Int32) (jj : Int64) (tt : Int64) (r1 : Value) (r2 : Value) (r3 : Value) (r4 : Value) (v0 : Int64) (v1 : Int64) (v2 : Int64) (v3 : Int64) (b21 : Int32) (inn : Int64) (sm : Int32) (s25 : Slot) (s26 : Slot) (s27 : Slot) (s28 : Slot)
    (X0 : Stand p l e rr_4_4_4_53 s m args below meth c T0 locs cells slots) (hx : p.tables.exec = Jvm.exec) (hZ : Z.Warmed39 s.vm) (hw : ∀ d ∈ tables_1, d.before a0 Z = true) (hby : c.code = method_4_code) (hml : c.maxLocals = 29) (hown : s.vm.findClass "com/example/keyed_work_queue/keyedworkqueue/PendingFoundPinLaw" = some m.cls) (e0 : T0.heap = h0) (hcl : cells ≤ rr_4_4_4_53.cells) (hsl : slots ≤ rr_4_4_4_53.slots) (Z0 : n0 ≤ h0.size) (N0 : Fr n0 locs) (g0_arr : n0 ≤ arr) (VA : Arv Z h0 arr k .long (4 : Int32) [(.long v0), (.long v1), (.long v2), (.long v3)] (.long (0 : Int64))) (hc276 : ¬ (sm = (0 : Int32))) :
    ∃ (T' : State) (h' : Heap) (L' : List Loc), Stand p l e rr_4_4_4_53 s m args below meth c T' L' cells slots ∧ T'.heap = h' ∧ Fr n0 L' ∧ (Arv Z h' arr k .long (4 : Int32) [(.long v0), (.long v1), (.long (1 : Int64)), (.long inn)] (.long (0 : Int64)) ∧ Keep h0 h' [arr]) ∧
      ∀ target, Steps p.tables e below (T'.setTop (mkF m 299 #[.val (.ref pq), .val (.ref arr), .val (.long old), .second, .val (.long x), .second, .val (.long s'), .second, .val (.int ids), .val (.int fl), .val (.int b10), .val (.int (1 : Int32)), .val (.int b12), .val (.long jj), .second, .val (.long tt), .second, .val r1, .val r2, .val r3, .val r4, .val (.int b21), .val (.long inn), .second, .val (.int sm), s25, s26, s27, s28] [])) target → Steps p.tables e below (T0.setTop (mkF m 269 #[.val (.ref pq), .val (.ref arr), .val (.long old), .second, .val (.long x), .second, .val (.long s'), .second, .val (.int ids), .val (.int fl), .val (.int b10), .val (.int (1 : Int32)), .val (.int b12), .val (.long jj), .second, .val (.long tt), .second, .val r1, .val r2, .val r3, .val r4, .val (.int b21), .val (.long inn), .second, .val (.int sm), s25, s26, s27, s28] [])) target := by
  obtain ⟨clz1, Arz1, qz1, Sz1, Nz1, Hz1, Gz1⟩ := id VA
  have hin2 : ¬ ((2 : Int32) < 0 ∨ clz1.slots.size ≤ ((2 : Int32)).toNatClampNeg) := inb_of Sz1 ⟨by decide, by decide⟩
  obtain ⟨T2, h2, X2, e2, W2, st2⟩ := stJ X0 hx hZ e0 Arz1 (j := (2 : Int32)) hin2 (g := (mkF m 282 #[.val (.ref pq), .val (.ref arr), .val (.long old), .second, .val (.long x), .second, .val (.long s'), .second, .val (.int ids), .val (.int fl), .val (.int b10), .val (.int (1 : Int32)), .val (.int b12), .val (.long jj), .second, .val (.long tt), .second, .val r1, .val r2, .val r3, .val r4, .val (.int b21), .val (.long inn), .second, .val (.int sm), s25, s26, s27, s28] [(.long (1 : Int64)), (.int (2 : Int32)), (.ref arr)])) rfl rfl (hb hby d3_282)
  have V2 : Arv Z h2 arr k .long (4 : Int32) [(.long v0), (.long v1), (.long (1 : Int64)), (.long v3)] (.long (0 : Int64)) := Arv.set Arz1 qz1 Sz1 Nz1 Hz1 Gz1 rfl W2 2 rfl (Nat.le_of_ble_eq_true rfl)
  have N2 := Fr.snoc X2 N0 g0_arr
  obtain ⟨clz3, Arz3, qz3, Sz3, Nz3, Hz3, Gz3⟩ := id V2
  have hin4 : ¬ ((3 : Int32) < 0 ∨ clz3.slots.size ≤ ((3 : Int32)).toNatClampNeg) := inb_of Sz3 ⟨by decide, by decide⟩
  obtain ⟨T4, h4, X4, e4, W4, st4⟩ := stJ X2 hx hZ e2 Arz3 (j := (3 : Int32)) hin4 (g := (mkF m 287 #[.val (.ref pq), .val (.ref arr), .val (.long old), .second, .val (.long x), .second, .val (.long s'), .second, .val (.int ids), .val (.int fl), .val (.int b10), .val (.int (1 : Int32)), .val (.int b12), .val (.long jj), .second, .val (.long tt), .second, .val r1, .val r2, .val r3, .val r4, .val (.int b21), .val (.long inn), .second, .val (.int sm), s25, s26, s27, s28] [(.long inn), (.int (3 : Int32)), (.ref arr)])) rfl rfl (hb hby d3_287)
  have V4 : Arv Z h4 arr k .long (4 : Int32) [(.long v0), (.long v1), (.long (1 : Int64)), (.long inn)] (.long (0 : Int64)) := Arv.set Arz3 qz3 Sz3 Nz3 Hz3 Gz3 rfl W4 3 rfl (Nat.le_of_ble_eq_true rfl)
  have N4 := Fr.snoc X4 N2 g0_arr
  have kp5 : Keep h0 h4 [arr] := (((Keep.refl h0 [arr]).wr W2 (Or.inl (List.mem_of_getElem? (i := 0) rfl))).wr W4 (Or.inl (List.mem_of_getElem? (i := 0) rfl)))
  refine ⟨T4, _, _, X4, e4, N4, ⟨V4, kp5⟩, fun target kt => ?_⟩
  show Steps p.tables e below (T0.setTop (mkF m 269 #[.val (.ref pq), .val (.ref arr), .val (.long old), .second, .val (.long x), .second, .val (.long s'), .second, .val (.int ids), .val (.int fl), .val (.int b10), .val (.int (1 : Int32)), .val (.int b12), .val (.long jj), .second, .val (.long tt), .second, .val r1, .val r2, .val r3, .val r4, .val (.int b21), .val (.long inn), .second, .val (.int sm), s25, s26, s27, s28] [])) _
  refine XS.iload X0.here hx rfl (hb hby d3_269) rfl ?_
  refine XS.ifNo X0.here hx rfl (hb hby d3_271) rfl ((if0 _ _).trans (feq ((by decide) : ¬ ((1 : Int32) = (0 : Int32)))).1) ?_
  refine XS.iload X0.here hx rfl (hb hby d3_274) rfl ?_
  refine XS.ifNo X0.here hx rfl (hb hby d3_276) rfl ((if0 _ _).trans (feq hc276).1) ?_
  refine XS.aloadN X0.here hx rfl (hb hby d3_279) rfl rfl ?_
  refine XS.iconst X0.here hx rfl (hb hby d3_280) ?_
  refine XS.lconst X0.here hx rfl (hb hby d3_281) ?_
  refine st2 _ ?_
  refine XS.aloadN X2.here hx rfl (hb hby d3_283) rfl rfl ?_
  show Steps p.tables e below (T2.setTop (mkF m 284 #[.val (.ref pq), .val (.ref arr), .val (.long old), .second, .val (.long x), .second, .val (.long s'), .second, .val (.int ids), .val (.int fl), .val (.int b10), .val (.int (1 : Int32)), .val (.int b12), .val (.long jj), .second, .val (.long tt), .second, .val r1, .val r2, .val r3, .val r4, .val (.int b21), .val (.long inn), .second, .val (.int sm), s25, s26, s27, s28] [(.ref arr)])) _
  refine XS.iconst X2.here hx rfl (hb hby d3_284) ?_
  refine XS.lload X2.here hx rfl (hb hby d3_285) rfl ?_
  refine st4 _ ?_
  refine XS.goto X4.here hx rfl (pc0 := 288) (pc' := 299) rfl (hb hby d3_288) (by decide) (by decide) ?_
  exact kt
theorem d3_291 : decode method_4_code 291 = .ok (.aload_n 1, 1) := by decide +kernel
theorem d3_292 : decode method_4_code 292 = .ok (.iconst 2, 1) := by decide +kernel
theorem d3_293 : decode method_4_code 293 = .ok (.lconst 0, 1) := by decide +kernel
theorem d3_294 : decode method_4_code 294 = .ok (.lastore, 1) := by decide +kernel
theorem d3_295 : decode method_4_code 295 = .ok (.aload_n 1, 1) := by decide +kernel
theorem d3_296 : decode method_4_code 296 = .ok (.iconst 3, 1) := by decide +kernel
theorem d3_297 : decode method_4_code 297 = .ok (.lconst 0, 1) := by decide +kernel
theorem d3_298 : decode method_4_code 298 = .ok (.lastore, 1) := by decide +kernel
set_option maxRecDepth 65536 in
set_option maxHeartbeats 40000000 in
theorem s4_1_ft {p : Program} {l : Launch} {e : Env} {s : State} {m : MethodId} {args : Array Value} {below : List Frame} {meth : Method} {c : Code} {T0 : State} {locs : List Loc} {cells slots : Nat} {Z : State} {a0 : Array Value} {h0 : Heap} {n0 : Nat} (pq : Addr) (arr : Addr) (k : ClassId) (old : Int64) (x : Int64) (s' : Int64) (ids : Int32) (fl : Int32) (b10 : Int32) (b11 : Int32) (b12 : Int32) (jj : Int64) (tt : Int64) (r1 : Value) (r2 : Value) (r3 : Value) (r4 : Value) (v0 : Int64) (v1 : Int64) (v2 : Int64) (v3 : Int64) (b21 : Int32) (inn : Int64) (sm : Int32) (s25 : Slot) (s26 : Slot) (s27 : Slot) (s28 : Slot)
    (X0 : Stand p l e rr_4_4_4_53 s m args below meth c T0 locs cells slots) (hx : p.tables.exec = Jvm.exec) (hZ : Z.Warmed39 s.vm) (hw : ∀ d ∈ tables_1, d.before a0 Z = true) (hby : c.code = method_4_code) (hml : c.maxLocals = 29) (hown : s.vm.findClass "com/example/keyed_work_queue/keyedworkqueue/PendingFoundPinLaw" = some m.cls) (e0 : T0.heap = h0) (hcl : cells ≤ rr_4_4_4_53.cells) (hsl : slots ≤ rr_4_4_4_53.slots) (Z0 : n0 ≤ h0.size) (N0 : Fr n0 locs) (g0_arr : n0 ≤ arr) (VA : Arv Z h0 arr k .long (4 : Int32) [(.long v0), (.long v1), (.long v2), (.long v3)] (.long (0 : Int64))) (hc276 : sm = (0 : Int32)) :
    ∃ (T' : State) (h' : Heap) (L' : List Loc), Stand p l e rr_4_4_4_53 s m args below meth c T' L' cells slots ∧ T'.heap = h' ∧ Fr n0 L' ∧ (Arv Z h' arr k .long (4 : Int32) [(.long v0), (.long v1), (.long (0 : Int64)), (.long (0 : Int64))] (.long (0 : Int64)) ∧ Keep h0 h' [arr]) ∧
      ∀ target, Steps p.tables e below (T'.setTop (mkF m 299 #[.val (.ref pq), .val (.ref arr), .val (.long old), .second, .val (.long x), .second, .val (.long s'), .second, .val (.int ids), .val (.int fl), .val (.int b10), .val (.int (1 : Int32)), .val (.int b12), .val (.long jj), .second, .val (.long tt), .second, .val r1, .val r2, .val r3, .val r4, .val (.int b21), .val (.long inn), .second, .val (.int sm), s25, s26, s27, s28] [])) target → Steps p.tables e below (T0.setTop (mkF m 269 #[.val (.ref pq), .val (.ref arr), .val (.long old), .second, .val (.long x), .second, .val (.long s'), .second, .val (.int ids), .val (.int fl), .val (.int b10), .val (.int (1 : Int32)), .val (.int b12), .val (.long jj), .second, .val (.long tt), .second, .val r1, .val r2, .val r3, .val r4, .val (.int b21), .val (.long inn), .second, .val (.int sm), s25, s26, s27, s28] [])) target := by
  obtain ⟨clz1, Arz1, qz1, Sz1, Nz1, Hz1, Gz1⟩ := id VA
  have hin2 : ¬ ((2 : Int32) < 0 ∨ clz1.slots.size ≤ ((2 : Int32)).toNatClampNeg) := inb_of Sz1 ⟨by decide, by decide⟩
  obtain ⟨T2, h2, X2, e2, W2, st2⟩ := stJ X0 hx hZ e0 Arz1 (j := (2 : Int32)) hin2 (g := (mkF m 294 #[.val (.ref pq), .val (.ref arr), .val (.long old), .second, .val (.long x), .second, .val (.long s'), .second, .val (.int ids), .val (.int fl), .val (.int b10), .val (.int (1 : Int32)), .val (.int b12), .val (.long jj), .second, .val (.long tt), .second, .val r1, .val r2, .val r3, .val r4, .val (.int b21), .val (.long inn), .second, .val (.int sm), s25, s26, s27, s28] [(.long (0 : Int64)), (.int (2 : Int32)), (.ref arr)])) rfl rfl (hb hby d3_294)
  have V2 : Arv Z h2 arr k .long (4 : Int32) [(.long v0), (.long v1), (.long (0 : Int64)), (.long v3)] (.long (0 : Int64)) := Arv.set Arz1 qz1 Sz1 Nz1 Hz1 Gz1 rfl W2 2 rfl (Nat.le_of_ble_eq_true rfl)
  have N2 := Fr.snoc X2 N0 g0_arr
  obtain ⟨clz3, Arz3, qz3, Sz3, Nz3, Hz3, Gz3⟩ := id V2
  have hin4 : ¬ ((3 : Int32) < 0 ∨ clz3.slots.size ≤ ((3 : Int32)).toNatClampNeg) := inb_of Sz3 ⟨by decide, by decide⟩
  obtain ⟨T4, h4, X4, e4, W4, st4⟩ := stJ X2 hx hZ e2 Arz3 (j := (3 : Int32)) hin4 (g := (mkF m 298 #[.val (.ref pq), .val (.ref arr), .val (.long old), .second, .val (.long x), .second, .val (.long s'), .second, .val (.int ids), .val (.int fl), .val (.int b10), .val (.int (1 : Int32)), .val (.int b12), .val (.long jj), .second, .val (.long tt), .second, .val r1, .val r2, .val r3, .val r4, .val (.int b21), .val (.long inn), .second, .val (.int sm), s25, s26, s27, s28] [(.long (0 : Int64)), (.int (3 : Int32)), (.ref arr)])) rfl rfl (hb hby d3_298)
  have V4 : Arv Z h4 arr k .long (4 : Int32) [(.long v0), (.long v1), (.long (0 : Int64)), (.long (0 : Int64))] (.long (0 : Int64)) := Arv.set Arz3 qz3 Sz3 Nz3 Hz3 Gz3 rfl W4 3 rfl (Nat.le_of_ble_eq_true rfl)
  have N4 := Fr.snoc X4 N2 g0_arr
  have kp5 : Keep h0 h4 [arr] := (((Keep.refl h0 [arr]).wr W2 (Or.inl (List.mem_of_getElem? (i := 0) rfl))).wr W4 (Or.inl (List.mem_of_getElem? (i := 0) rfl)))
  refine ⟨T4, _, _, X4, e4, N4, ⟨V4, kp5⟩, fun target kt => ?_⟩
  show Steps p.tables e below (T0.setTop (mkF m 269 #[.val (.ref pq), .val (.ref arr), .val (.long old), .second, .val (.long x), .second, .val (.long s'), .second, .val (.int ids), .val (.int fl), .val (.int b10), .val (.int (1 : Int32)), .val (.int b12), .val (.long jj), .second, .val (.long tt), .second, .val r1, .val r2, .val r3, .val r4, .val (.int b21), .val (.long inn), .second, .val (.int sm), s25, s26, s27, s28] [])) _
  refine XS.iload X0.here hx rfl (hb hby d3_269) rfl ?_
  refine XS.ifNo X0.here hx rfl (hb hby d3_271) rfl ((if0 _ _).trans (feq ((by decide) : ¬ ((1 : Int32) = (0 : Int32)))).1) ?_
  refine XS.iload X0.here hx rfl (hb hby d3_274) rfl ?_
  refine XS.ifYes X0.here hx rfl (pc0 := 276) (pc' := 291) rfl (hb hby d3_276) rfl ((if0 _ _).trans (teq hc276).1) (by decide) (by decide) ?_
  refine XS.aloadN X0.here hx rfl (hb hby d3_291) rfl rfl ?_
  refine XS.iconst X0.here hx rfl (hb hby d3_292) ?_
  refine XS.lconst X0.here hx rfl (hb hby d3_293) ?_
  refine st2 _ ?_
  refine XS.aloadN X2.here hx rfl (hb hby d3_295) rfl rfl ?_
  show Steps p.tables e below (T2.setTop (mkF m 296 #[.val (.ref pq), .val (.ref arr), .val (.long old), .second, .val (.long x), .second, .val (.long s'), .second, .val (.int ids), .val (.int fl), .val (.int b10), .val (.int (1 : Int32)), .val (.int b12), .val (.long jj), .second, .val (.long tt), .second, .val r1, .val r2, .val r3, .val r4, .val (.int b21), .val (.long inn), .second, .val (.int sm), s25, s26, s27, s28] [(.ref arr)])) _
  refine XS.iconst X2.here hx rfl (hb hby d3_296) ?_
  refine XS.lconst X2.here hx rfl (hb hby d3_297) ?_
  refine st4 _ ?_
  exact kt
set_option maxRecDepth 65536 in
set_option maxHeartbeats 40000000 in
theorem s4_1 {p : Program} {l : Launch} {e : Env} {s : State} {m : MethodId} {args : Array Value} {below : List Frame} {meth : Method} {c : Code} {T0 : State} {locs : List Loc} {cells slots : Nat} {Z : State} {a0 : Array Value} {h0 : Heap} {n0 : Nat} (pq : Addr) (arr : Addr) (k : ClassId) (old : Int64) (x : Int64) (s' : Int64) (ids : Int32) (fl : Int32) (b10 : Int32) (b11 : Int32) (b12 : Int32) (jj : Int64) (tt : Int64) (r1 : Value) (r2 : Value) (r3 : Value) (r4 : Value) (v0 : Int64) (v1 : Int64) (v2 : Int64) (v3 : Int64) (b21 : Int32) (inn : Int64) (sm : Int32) (s25 : Slot) (s26 : Slot) (s27 : Slot) (s28 : Slot)
    (X0 : Stand p l e rr_4_4_4_53 s m args below meth c T0 locs cells slots) (hx : p.tables.exec = Jvm.exec) (hZ : Z.Warmed39 s.vm) (hw : ∀ d ∈ tables_1, d.before a0 Z = true) (hby : c.code = method_4_code) (hml : c.maxLocals = 29) (hown : s.vm.findClass "com/example/keyed_work_queue/keyedworkqueue/PendingFoundPinLaw" = some m.cls) (e0 : T0.heap = h0) (hcl : cells ≤ rr_4_4_4_53.cells) (hsl : slots ≤ rr_4_4_4_53.slots) (Z0 : n0 ≤ h0.size) (N0 : Fr n0 locs) (g0_arr : n0 ≤ arr) (VA : Arv Z h0 arr k .long (4 : Int32) [(.long v0), (.long v1), (.long v2), (.long v3)] (.long (0 : Int64))) :
    ∃ (T' : State) (h' : Heap) (L' : List Loc), Stand p l e rr_4_4_4_53 s m args below meth c T' L' cells slots ∧ T'.heap = h' ∧ Fr n0 L' ∧ (Arv Z h' arr k .long (4 : Int32) [(.long v0), (.long v1), (.long (if ¬ (sm = 0) then ((1 : Int64), inn) else ((0 : Int64), (0 : Int64))).1), (.long (if ¬ (sm = 0) then ((1 : Int64), inn) else ((0 : Int64), (0 : Int64))).2)] (.long (0 : Int64)) ∧ Keep h0 h' [arr]) ∧
      ∀ target, Steps p.tables e below (T'.setTop (mkF m 299 #[.val (.ref pq), .val (.ref arr), .val (.long old), .second, .val (.long x), .second, .val (.long s'), .second, .val (.int ids), .val (.int fl), .val (.int b10), .val (.int (1 : Int32)), .val (.int b12), .val (.long jj), .second, .val (.long tt), .second, .val r1, .val r2, .val r3, .val r4, .val (.int b21), .val (.long inn), .second, .val (.int sm), s25, s26, s27, s28] [])) target → Steps p.tables e below (T0.setTop (mkF m 269 #[.val (.ref pq), .val (.ref arr), .val (.long old), .second, .val (.long x), .second, .val (.long s'), .second, .val (.int ids), .val (.int fl), .val (.int b10), .val (.int (1 : Int32)), .val (.int b12), .val (.long jj), .second, .val (.long tt), .second, .val r1, .val r2, .val r3, .val r4, .val (.int b21), .val (.long inn), .second, .val (.int sm), s25, s26, s27, s28] [])) target := by
  by_cases c0 : sm = 0
  · rw [if_neg (fun z => z c0)]; exact s4_1_ft pq arr k old x s' ids fl b10 b11 b12 jj tt r1 r2 r3 r4 v0 v1 v2 v3 b21 inn sm s25 s26 s27 s28 X0 hx hZ hw hby hml hown e0 hcl hsl Z0 N0 g0_arr VA c0
  · rw [if_pos c0]; exact s4_1_ff pq arr k old x s' ids fl b10 b11 b12 jj tt r1 r2 r3 r4 v0 v1 v2 v3 b21 inn sm s25 s26 s27 s28 X0 hx hZ hw hby hml hown e0 hcl hsl Z0 N0 g0_arr VA c0
theorem own_smT (oj : Option Int64) (inn : Int64) : (own_same oj (some inn) = true) ↔ ¬ (own_sm (True) (own_v2 oj) (own_v3 oj) inn = 0) := by
  cases oj with
  | none => simp [own_same, own_sm, own_v2]
  | some v =>
    by_cases q : v = inn
    · subst q; simp [own_same, own_sm, own_v2, own_v3]
    · have q' : ¬ inn = v := fun z => q z.symm
      simp [own_same, own_sm, own_v2, own_v3, q, q']
theorem own_smF (oj : Option Int64) : own_same oj none = false := by
  cases oj <;> rfl
theorem own_smZ (v2 v3 inn : Int64) : own_sm (False) v2 v3 inn = 0 := if_neg (fun z => z.2.1)
theorem d3_299 : decode method_4_code 299 = .ok (.aload_n 0, 1) := by decide +kernel
theorem d3_300 : decode method_4_code 300 = .ok (.invokevirtual 34, 3) := by decide +kernel
theorem d3_303 : decode method_4_code 303 = .ok (.aload_n 1, 1) := by decide +kernel
theorem d3_304 : decode method_4_code 304 = .ok (.iconst 0, 1) := by decide +kernel
theorem d3_305 : decode method_4_code 305 = .ok (.laload, 1) := by decide +kernel
theorem d3_306 : decode method_4_code 306 = .ok (.lcmp, 1) := by decide +kernel
theorem d3_307 : decode method_4_code 307 = .ok (.ifCond .ne 35, 3) := by decide +kernel
theorem d3_310 : decode method_4_code 310 = .ok (.aload_n 0, 1) := by decide +kernel
theorem d3_311 : decode method_4_code 311 = .ok (.invokevirtual 38, 3) := by decide +kernel
theorem d3_314 : decode method_4_code 314 = .ok (.aload_n 1, 1) := by decide +kernel
theorem d3_315 : decode method_4_code 315 = .ok (.iconst 1, 1) := by decide +kernel
theorem d3_316 : decode method_4_code 316 = .ok (.laload, 1) := by decide +kernel
theorem d3_317 : decode method_4_code 317 = .ok (.lcmp, 1) := by decide +kernel
theorem d3_318 : decode method_4_code 318 = .ok (.ifCond .ne 24, 3) := by decide +kernel
theorem d3_321 : decode method_4_code 321 = .ok (.aload_n 0, 1) := by decide +kernel
theorem pd_8 : parseMethodDescriptor "()Z" = some ⟨[], some .boolean⟩ := by decide +kernel
theorem d3_322 : decode method_4_code 322 = .ok (.invokevirtual 41, 3) := by decide +kernel
theorem d3_325 : decode method_4_code 325 = .ok (.iload 10, 2) := by decide +kernel
theorem d3_327 : decode method_4_code 327 = .ok (.ifCond .ne 7, 3) := by decide +kernel
theorem d3_330 : decode method_4_code 330 = .ok (.iconst 1, 1) := by decide +kernel
theorem d3_331 : decode method_4_code 331 = .ok (.goto 4, 3) := by decide +kernel
theorem d3_335 : decode method_4_code 335 = .ok (.if_icmp .ne 7, 3) := by decide +kernel
theorem d3_338 : decode method_4_code 338 = .ok (.iconst 1, 1) := by decide +kernel
theorem d3_339 : decode method_4_code 339 = .ok (.goto 4, 3) := by decide +kernel
theorem d3_343 : decode method_4_code 343 = .ok (.ireturn, 1) := by decide +kernel
theorem ef_3 (m : MethodId) (x0 : Addr) (x1 : Addr) (x2 : Int64) (x3 : Int64) (x4 : Int64) (x5 : Int32) (x6 : Int32) : entryFrame m #[(.ref x0), (.ref x1), (.long x2), (.long x3), (.long x4), (.int x5), (.int x6)] 29 = mkF m 0 #[.val (.ref x0), .val (.ref x1), .val (.long x2), .second, .val (.long x3), .second, .val (.long x4), .second, .val (.int x5), .val (.int x6), .unset, .unset, .unset, .unset, .unset, .unset, .unset, .unset, .unset, .unset, .unset, .unset, .unset, .unset, .unset, .unset, .unset, .unset, .unset] [] := by first | (simp [entryFrame, mkF, argsToLocals, Value.category]; done) | rfl
abbrev nm_3 : MethodName := ⟨"com/example/keyed_work_queue/keyedworkqueue/PendingFoundPinLaw", "step", "(Lcom/example/keyed_work_queue/keyedworkqueue/Pending;[JJJJII)Z"⟩
set_option maxRecDepth 65536 in
set_option maxHeartbeats 40000000 in
theorem rm3_000 (l : Launch) (Z : State) (a0 : Array Value) (hw : ∀ d ∈ tables_1, d.before a0 Z = true) (ws : List Jvm.Cond) (pq : Addr) (arr : Addr) (k : ClassId) (cb : Addr) (old : Int64) (x : Int64) (s' : Int64) (ids : Int32) (fl : Int32) (fx : Int64) (fs : Int64) (oj : Option Int64) (h0 : Heap) (n0 : Nat) (Z0 : n0 ≤ h0.size) (g0_pq : n0 ≤ pq) (g0_arr : n0 ≤ arr) (O0 : Old Z n0 h0) (SC : Sta Z Z.heap "java/lang/Long$LongCache" "cache" "[Ljava/lang/Long;" (.ref cb)) (LC : LCache Z cb) (IV : Inv Z h0 pq arr k fx fs oj) (hF : (fl &&& (1 : Int32)) = (0 : Int32)) (hJ : (fl &&& (2 : Int32)) = (0 : Int32)) (hT : (fl &&& (4 : Int32)) = (0 : Int32)) :
    MetFree l nm_3 (head1 (Jvm.Cond.code nm_3 method_4_code 29 (some .boolean) :: ws) rr_4_4_4_53) (fun aa zU => aa = #[(.ref pq), (.ref arr), (.long old), (.long x), (.long s'), (.int ids), (.int fl)] ∧ Z.Warmed39 zU.vm ∧ zU.heap = h0) (fun _ _ _ _ _ => True) (fun _ zU zo zU' => ∃ zv zL, zo = .returned zv ∧ QS Z pq arr k h0 n0 zv zU'.heap zL ∧ FrameEnd zU zo zU' zL rr_4_4_4_53.cells rr_4_4_4_53.slots) := by
  refine MetFree.of_bodySF (plainFor_of_name pn_com_example_keyed_work_queue_keyedworkqueue_PendingFoundPinLaw) hisR ?_
  intro p e s m args below meth c s₁ Bd hml0 hP hK
  obtain ⟨rfl, hZ, hh⟩ := hP
  have hx := Bd.exec
  have hby := Bd.bytes
  have hml : c.maxLocals = 29 := hml0
  have hown : s.vm.findClass "com/example/keyed_work_queue/keyedworkqueue/PendingFoundPinLaw" = some m.cls := findClass_of_methodNamed Bd.named
  have hnm := (name_of_methodNamed Bd.named Bd.method).1
  have X0 : Stand p l e rr_4_4_4_53 s m #[(.ref pq), (.ref arr), (.long old), (.long x), (.long s'), (.int ids), (.int fl)] below meth c s₁ [] 0 0 := Stand.of_body Bd
  have e0 : s₁.heap = h0 := by rw [← hh, Bd.state]; rfl
  have N0 := Fr.nil n0
  have pre0 : ∀ t, Steps p.tables e below (s₁.setTop (mkF m 0 #[.val (.ref pq), .val (.ref arr), .val (.long old), .second, .val (.long x), .second, .val (.long s'), .second, .val (.int ids), .val (.int fl), .unset, .unset, .unset, .unset, .unset, .unset, .unset, .unset, .unset, .unset, .unset, .unset, .unset, .unset, .unset, .unset, .unset, .unset, .unset] [])) t → Steps p.tables e below (s₁.setTop (entryFrame m #[(.ref pq), (.ref arr), (.long old), (.long x), (.long s'), (.int ids), (.int fl)] 29)) t := fun t k => castTop (ef_3 m pq arr old x s' ids fl) k
  obtain ⟨jr, sn, PA, LJ, VA⟩ := IV
  obtain ⟨jj, hjj⟩ : ∃ z, ((1000 : Int64) + ((ids &&& (3 : Int32)).toInt64)) = z := ⟨_, rfl⟩
  obtain ⟨tt, htt⟩ : ∃ z, ((1000 : Int64) + (((ids >>> ((2 : Int32) &&& 31)) &&& (3 : Int32)).toInt64)) = z := ⟨_, rfl⟩
  obtain ⟨T1, h1, L1, jr1, r1, r2, r3, r4, X1, e1, N1, ⟨PB, LN, VB, O1, K1⟩, st1⟩ := s1_000 pq arr k cb old x s' ids fl fx fs jr sn oj (own_v2 oj) (own_v3 oj) jj tt X0 hx hZ hw hby hml hown e0 Z0 N0 hjj htt g0_pq g0_arr PA O0 SC LC LJ VA hF hJ hT
  have Z1 : n0 ≤ h1.size := Nat.le_trans Z0 K1.1
  have st2 := s2_00 pq arr k old x s' ids fl (0 : Int32) jj tt r1 r2 r3 r4 fx fs (own_v2 oj) (own_v3 oj) X1 hx hZ hw hby hml hown e1 (by decide) (by decide) VB
  obtain ⟨sm, hsm⟩ : ∃ z, own_sm (True) (own_v2 oj) (own_v3 oj) jj = z := ⟨_, rfl⟩
  rw [hsm] at st2
  obtain ⟨T3, h3, L3, s25, s26, s27, s28, X3, e3, N3, ⟨V3, K3⟩, st3⟩ := s3_0 pq arr k old x s' ids fl (0 : Int32) (0 : Int32) (0 : Int32) jj tt r1 r2 r3 r4 fx fs (own_v2 oj) (own_v3 oj) (1 : Int32) jj sm X1 hx hZ hw hby hml hown e1 (by decide) (by decide) Z1 N1 g0_arr VB
  have Z3 : n0 ≤ h3.size := Nat.le_trans Z1 K3.1
  obtain ⟨T4, h4, L4, X4, e4, N4, ⟨V4, K4⟩, st4⟩ := s4_0_t pq arr k old x s' ids fl (0 : Int32) (0 : Int32) (0 : Int32) jj tt r1 r2 r3 r4 _ _ (own_v2 oj) (own_v3 oj) (1 : Int32) jj sm s25 s26 s27 s28 X3 hx hZ hw hby hml hown e3 (by decide) (by decide) Z3 N3 g0_arr V3
  have hq : (own_same oj (some jj) = true) ↔ ¬ (sm = 0) := hsm ▸ own_smT oj jj
  have hNV : (if ¬ (sm = 0) then (fx, fs) else own_raise (fx, fs) (own_cand old (some (x, s')))) = (own_fl oj (own_or (some jj) (some tt)) (fx, fs) (own_cand old (some (x, s')))) := by
    show _ = (if own_same oj (some jj) = true then _ else _)
    by_cases q : own_same oj (some jj) = true
    · rw [if_pos q, if_pos (hq.mp q)]
    · rw [if_neg q, if_neg (fun z => q (hq.mpr z))]
  rw [hNV] at V4
  have V5 : Arv Z h4 arr k .long (4 : Int32) [(.long (own_fl oj (own_or (some jj) (some tt)) (fx, fs) (own_cand old (some (x, s')))).1), (.long (own_fl oj (own_or (some jj) (some tt)) (fx, fs) (own_cand old (some (x, s')))).2), (.long (own_v2 (own_jo oj (some jj) (some tt)))), (.long (own_v3 (own_jo oj (some jj) (some tt))))] (.long (0 : Int64)) := V4
  have LN4 := (LN.keepA K3 VB (ow hw 32 rfl)).keepA K4 V3 (ow hw 32 rfl)
  have ne_pq_arr : pq ≠ arr := own_pe PA.1 VA (ow hw 1 rfl)
  obtain ⟨Epd101, Fapd101, Fbpd101, Fcpd101, Fdpd101⟩ := PB
  have c102 := Fapd101.keep K3 (ninS ne_pq_arr nin0)
  have c103 := c102.keep K4 (ninS ne_pq_arr nin0)
  have c105 := Epd101.keep K3
  have c106 := c105.keep K4
  obtain ⟨cq104, kq104, q104a, q104b, q104c⟩ := isOf hZ e4 c106
  obtain ⟨_, _, ⟨T104, L104, k104, n104⟩, -, X104, ⟨Lc104, hQ104, l104, y104, z104⟩, st104⟩ := X4.virtualBack hx (y := nm_11) (z := nm_11) hown (mvT hZ (ow hw 65 rfl)) (mvT hZ (ow hw 66 rfl)) (notFace_of_selects (args := #[]) (mvT hZ (ow hw 68 rfl))) (mvT hZ (ow hw 68 rfl)) (mvT hZ (ow hw 67 rfl)) (by decide) (backOf (W := 0) (rm11 l Z a0 hw [] pq (own_fl oj (own_or (some jj) (some tt)) (fx, fs) (own_cand old (some (x, s')))).1 h4 n0 (Nat.le_trans (Nat.le_trans (Nat.le_trans Z0 K1.1) K3.1) K4.1) c103) hZ (ow hw 69 rfl) (ow hw 2 rfl) (by decide) (by decide)) q104a q104c (g := (mkF m 300 #[.val (.ref pq), .val (.ref arr), .val (.long old), .second, .val (.long x), .second, .val (.long s'), .second, .val (.int ids), .val (.int fl), .val (.int (0 : Int32)), .val (.int (0 : Int32)), .val (.int (0 : Int32)), .val (.long jj), .second, .val (.long tt), .second, .val r1, .val r2, .val r3, .val r4, .val (.int (1 : Int32)), .val (.long jj), .second, .val (.int sm), s25, s26, s27, s28] [(.ref pq)])) rfl (by rw [hml]; rfl) (Steps.refl _) (argsL := []) (rest := []) (lenOf pd_6 rfl) rfl (by show 2 * 0 + _ ≤ _; exact Nat.le_of_eq rfl) (hb hby d3_300) (fun _ _ => ⟨rfl, e4, (by decide : 4 + 0 ≤ _), (by decide : 4 + 0 ≤ _)⟩)
  dsimp only [Pt.U, Pt.locs, Pt.cells, Pt.slots] at X104 l104 y104 z104 st104 hQ104
  subst l104 y104 z104
  obtain ⟨rfl, N104q, e104⟩ := hQ104
  have N104 := Fr.app N4 N104q
  obtain ⟨clz107, Arz107, qz107, Sz107, Nz107, Hz107, Gz107⟩ := id V5
  have hin108 : ¬ ((0 : Int32) < 0 ∨ clz107.slots.size ≤ ((0 : Int32)).toNatClampNeg) := inb_of Sz107 ⟨by decide, by decide⟩
  have hat108 : clz107.slots[((0 : Int32)).toNatClampNeg]? = some (.long (own_fl oj (own_or (some jj) (some tt)) (fx, fs) (own_cand old (some (x, s')))).1) := Hz107.at hin108 rfl
  have c109 := Fbpd101.keep K3 (ninS ne_pq_arr nin0)
  have c110 := c109.keep K4 (ninS ne_pq_arr nin0)
  obtain ⟨cq111, kq111, q111a, q111b, q111c⟩ := isOf hZ e104 c106
  obtain ⟨_, _, ⟨T111, L111, k111, n111⟩, -, X111, ⟨Lc111, hQ111, l111, y111, z111⟩, st111⟩ := X104.virtualBack hx (y := nm_12) (z := nm_12) hown (mvT hZ (ow hw 70 rfl)) (mvT hZ (ow hw 71 rfl)) (notFace_of_selects (args := #[]) (mvT hZ (ow hw 73 rfl))) (mvT hZ (ow hw 73 rfl)) (mvT hZ (ow hw 72 rfl)) (by decide) (backOf (W := 0) (rm12 l Z a0 hw [] pq (own_fl oj (own_or (some jj) (some tt)) (fx, fs) (own_cand old (some (x, s')))).2 h4 n0 (Nat.le_trans (Nat.le_trans (Nat.le_trans Z0 K1.1) K3.1) K4.1) c110) hZ (ow hw 74 rfl) (ow hw 2 rfl) (by decide) (by decide)) q111a q111c (g := (mkF m 311 #[.val (.ref pq), .val (.ref arr), .val (.long old), .second, .val (.long x), .second, .val (.long s'), .second, .val (.int ids), .val (.int fl), .val (.int (0 : Int32)), .val (.int (0 : Int32)), .val (.int (0 : Int32)), .val (.long jj), .second, .val (.long tt), .second, .val r1, .val r2, .val r3, .val r4, .val (.int (1 : Int32)), .val (.long jj), .second, .val (.int sm), s25, s26, s27, s28] [(.ref pq)])) rfl (by rw [hml]; rfl) (Steps.refl _) (argsL := []) (rest := []) (lenOf pd_6 rfl) rfl (by show 2 * 0 + _ ≤ _; exact Nat.le_of_eq rfl) (hb hby d3_311) (fun _ _ => ⟨rfl, e104, (by decide : 4 + 0 ≤ _), (by decide : 4 + 0 ≤ _)⟩)
  dsimp only [Pt.U, Pt.locs, Pt.cells, Pt.slots] at X111 l111 y111 z111 st111 hQ111
  subst l111 y111 z111
  obtain ⟨rfl, N111q, e111⟩ := hQ111
  have N111 := Fr.app N104 N111q
  obtain ⟨clz112, Arz112, qz112, Sz112, Nz112, Hz112, Gz112⟩ := id V5
  have hin113 : ¬ ((1 : Int32) < 0 ∨ clz112.slots.size ≤ ((1 : Int32)).toNatClampNeg) := inb_of Sz112 ⟨by decide, by decide⟩
  have hat113 : clz112.slots[((1 : Int32)).toNatClampNeg]? = some (.long (own_fl oj (own_or (some jj) (some tt)) (fx, fs) (own_cand old (some (x, s')))).2) := Hz112.at hin113 rfl
  have c114 := Fdpd101.keep K3 (ninS ne_pq_arr nin0)
  have c115 := c114.keep K4 (ninS ne_pq_arr nin0)
  obtain ⟨cq116, kq116, q116a, q116b, q116c⟩ := isOf hZ e111 c106
  obtain ⟨_, _, ⟨T116, L116, k116, n116⟩, -, X116, ⟨Lc116, hQ116, l116, y116, z116⟩, st116⟩ := X111.virtualBack hx (y := nm_13) (z := nm_13) hown (mvT hZ (ow hw 75 rfl)) (mvT hZ (ow hw 76 rfl)) (notFace_of_selects (args := #[]) (mvT hZ (ow hw 78 rfl))) (mvT hZ (ow hw 78 rfl)) (mvT hZ (ow hw 77 rfl)) (by decide) (backOf (W := 0) (rm13_1 l Z a0 hw [] pq h4 n0 (Nat.le_trans (Nat.le_trans (Nat.le_trans Z0 K1.1) K3.1) K4.1) c115) hZ (ow hw 79 rfl) (ow hw 2 rfl) (by decide) (by decide)) q116a q116c (g := (mkF m 322 #[.val (.ref pq), .val (.ref arr), .val (.long old), .second, .val (.long x), .second, .val (.long s'), .second, .val (.int ids), .val (.int fl), .val (.int (0 : Int32)), .val (.int (0 : Int32)), .val (.int (0 : Int32)), .val (.long jj), .second, .val (.long tt), .second, .val r1, .val r2, .val r3, .val r4, .val (.int (1 : Int32)), .val (.long jj), .second, .val (.int sm), s25, s26, s27, s28] [(.ref pq)])) rfl (by rw [hml]; rfl) (Steps.refl _) (argsL := []) (rest := []) (lenOf pd_8 rfl) rfl (by show 2 * 0 + _ ≤ _; exact Nat.le_of_eq rfl) (hb hby d3_322) (fun _ _ => ⟨rfl, e111, (by decide : 4 + 0 ≤ _), (by decide : 4 + 0 ≤ _)⟩)
  dsimp only [Pt.U, Pt.locs, Pt.cells, Pt.slots] at X116 l116 y116 z116 st116 hQ116
  subst l116 y116 z116
  obtain ⟨rfl, N116q, e116⟩ := hQ116
  have N116 := Fr.app N111 N116q
  have kp117 : Keep h0 h4 [pq, arr] := ((((Keep.refl h0 [pq, arr]).trans K1 (allS (Or.inl (List.mem_of_getElem? (i := 0) rfl)) all0)).trans K3 (allS (Or.inl (List.mem_of_getElem? (i := 1) rfl)) all0)).trans K4 (allS (Or.inl (List.mem_of_getElem? (i := 1) rfl)) all0))
  have c118 := Fcpd101.keep K3 (ninS ne_pq_arr nin0)
  have c119 := c118.keep K4 (ninS ne_pq_arr nin0)
  obtain ⟨fsq, hr, hrun, hended, hW, hsame⟩ := X116.leave (v := some (.int (1 : Int32))) (fun h => by rw [Bd.returns] at h; cases h)
  refine ⟨_, _, pre0 _ ?_, hrun, hended, _, _, rfl, ?_, ⟨_, rfl⟩, hW, hsame.mono (by decide) (by decide)⟩
  · show Steps p.tables e below (s₁.setTop (mkF m 0 #[.val (.ref pq), .val (.ref arr), .val (.long old), .second, .val (.long x), .second, .val (.long s'), .second, .val (.int ids), .val (.int fl), .unset, .unset, .unset, .unset, .unset, .unset, .unset, .unset, .unset, .unset, .unset, .unset, .unset, .unset, .unset, .unset, .unset, .unset, .unset] [])) _
    refine st1 _ ?_
    refine st2 _ ?_
    refine st3 _ ?_
    refine st4 _ ?_
    refine XS.aloadN X4.here hx rfl (hb hby d3_299) rfl rfl ?_
    refine st104.trans ?_
    refine XS.aloadN X104.here hx rfl (hb hby d3_303) rfl rfl ?_
    refine XS.iconst X104.here hx rfl (hb hby d3_304) ?_
    refine X104.laload hx (j := (0 : Int32)) (v := (.long (own_fl oj (own_or (some jj) (some tt)) (fx, fs) (own_cand old (some (x, s')))).1)) (by rw [e104]; exact Arz107.1) (State.isArrayOf_alike hZ.alike Arz107.2.1) Arz107.2.2 hin108 hat108 (g := (mkF m 305 #[.val (.ref pq), .val (.ref arr), .val (.long old), .second, .val (.long x), .second, .val (.long s'), .second, .val (.int ids), .val (.int fl), .val (.int (0 : Int32)), .val (.int (0 : Int32)), .val (.int (0 : Int32)), .val (.long jj), .second, .val (.long tt), .second, .val r1, .val r2, .val r3, .val r4, .val (.int (1 : Int32)), .val (.long jj), .second, .val (.int sm), s25, s26, s27, s28] [(.int (0 : Int32)), (.ref arr), (.long (own_fl oj (own_or (some jj) (some tt)) (fx, fs) (own_cand old (some (x, s')))).1)])) rfl rfl (hb hby d3_305) _ ?_
    refine XS.lcmp X104.here hx rfl (hb hby d3_306) rfl ?_
    refine XS.ifNo X104.here hx rfl (hb hby d3_307) rfl ((if0 _ _).trans (teq ((lw_eq _ _).mpr rfl)).2) ?_
    refine XS.aloadN X104.here hx rfl (hb hby d3_310) rfl rfl ?_
    show Steps p.tables e below (T104.setTop (mkF m 311 #[.val (.ref pq), .val (.ref arr), .val (.long old), .second, .val (.long x), .second, .val (.long s'), .second, .val (.int ids), .val (.int fl), .val (.int (0 : Int32)), .val (.int (0 : Int32)), .val (.int (0 : Int32)), .val (.long jj), .second, .val (.long tt), .second, .val r1, .val r2, .val r3, .val r4, .val (.int (1 : Int32)), .val (.long jj), .second, .val (.int sm), s25, s26, s27, s28] [(.ref pq)])) _
    refine st111.trans ?_
    refine XS.aloadN X111.here hx rfl (hb hby d3_314) rfl rfl ?_
    refine XS.iconst X111.here hx rfl (hb hby d3_315) ?_
    refine X111.laload hx (j := (1 : Int32)) (v := (.long (own_fl oj (own_or (some jj) (some tt)) (fx, fs) (own_cand old (some (x, s')))).2)) (by rw [e111]; exact Arz112.1) (State.isArrayOf_alike hZ.alike Arz112.2.1) Arz112.2.2 hin113 hat113 (g := (mkF m 316 #[.val (.ref pq), .val (.ref arr), .val (.long old), .second, .val (.long x), .second, .val (.long s'), .second, .val (.int ids), .val (.int fl), .val (.int (0 : Int32)), .val (.int (0 : Int32)), .val (.int (0 : Int32)), .val (.long jj), .second, .val (.long tt), .second, .val r1, .val r2, .val r3, .val r4, .val (.int (1 : Int32)), .val (.long jj), .second, .val (.int sm), s25, s26, s27, s28] [(.int (1 : Int32)), (.ref arr), (.long (own_fl oj (own_or (some jj) (some tt)) (fx, fs) (own_cand old (some (x, s')))).2)])) rfl rfl (hb hby d3_316) _ ?_
    refine XS.lcmp X111.here hx rfl (hb hby d3_317) rfl ?_
    refine XS.ifNo X111.here hx rfl (hb hby d3_318) rfl ((if0 _ _).trans (teq ((lw_eq _ _).mpr rfl)).2) ?_
    refine XS.aloadN X111.here hx rfl (hb hby d3_321) rfl rfl ?_
    refine st116.trans ?_
    refine XS.iload X116.here hx rfl (hb hby d3_325) rfl ?_
    show Steps p.tables e below (T116.setTop (mkF m 327 #[.val (.ref pq), .val (.ref arr), .val (.long old), .second, .val (.long x), .second, .val (.long s'), .second, .val (.int ids), .val (.int fl), .val (.int (0 : Int32)), .val (.int (0 : Int32)), .val (.int (0 : Int32)), .val (.long jj), .second, .val (.long tt), .second, .val r1, .val r2, .val r3, .val r4, .val (.int (1 : Int32)), .val (.long jj), .second, .val (.int sm), s25, s26, s27, s28] [(.int (0 : Int32)), (.int (1 : Int32))])) _
    refine XS.ifNo X116.here hx rfl (hb hby d3_327) rfl ((if0 _ _).trans (teq (rfl : (0 : Int32) = (0 : Int32))).2) ?_
    refine XS.iconst X116.here hx rfl (hb hby d3_330) ?_
    refine XS.goto X116.here hx rfl (pc0 := 331) (pc' := 335) rfl (hb hby d3_331) (by decide) (by decide) ?_
    refine XS.icmpNo X116.here hx rfl (hb hby d3_335) rfl (teq (rfl : (1 : Int32) = (1 : Int32))).2 ?_
    refine XS.iconst X116.here hx rfl (hb hby d3_338) ?_
    refine XS.goto X116.here hx rfl (pc0 := 339) (pc' := 343) rfl (hb hby d3_339) (by decide) (by decide) ?_
    show Steps p.tables e below (T116.setTop (mkF m 343 #[.val (.ref pq), .val (.ref arr), .val (.long old), .second, .val (.long x), .second, .val (.long s'), .second, .val (.int ids), .val (.int fl), .val (.int (0 : Int32)), .val (.int (0 : Int32)), .val (.int (0 : Int32)), .val (.long jj), .second, .val (.long tt), .second, .val r1, .val r2, .val r3, .val r4, .val (.int (1 : Int32)), .val (.long jj), .second, .val (.int sm), s25, s26, s27, s28] [(.int (1 : Int32))])) _
    exact retN X116 hx (t := .boolean) Bd.returns (by simp) (hb hby d3_343) hr
  · show QS Z pq arr k h0 n0 _ T116.heap _
    rw [e116]
    exact ⟨rfl, N116, kp117, _, _, _, jr1, _, ⟨c106, c103, c110, c119, c115⟩, LN4, V5⟩
set_option maxRecDepth 65536 in
set_option maxHeartbeats 40000000 in
theorem rm3_001 (l : Launch) (Z : State) (a0 : Array Value) (hw : ∀ d ∈ tables_1, d.before a0 Z = true) (ws : List Jvm.Cond) (pq : Addr) (arr : Addr) (k : ClassId) (cb : Addr) (old : Int64) (x : Int64) (s' : Int64) (ids : Int32) (fl : Int32) (fx : Int64) (fs : Int64) (oj : Option Int64) (h0 : Heap) (n0 : Nat) (Z0 : n0 ≤ h0.size) (g0_pq : n0 ≤ pq) (g0_arr : n0 ≤ arr) (O0 : Old Z n0 h0) (SC : Sta Z Z.heap "java/lang/Long$LongCache" "cache" "[Ljava/lang/Long;" (.ref cb)) (LC : LCache Z cb) (IV : Inv Z h0 pq arr k fx fs oj) (hF : (fl &&& (1 : Int32)) = (0 : Int32)) (hJ : (fl &&& (2 : Int32)) = (0 : Int32)) (hT : ¬ ((fl &&& (4 : Int32)) = (0 : Int32))) :
    MetFree l nm_3 (head1 (Jvm.Cond.code nm_3 method_4_code 29 (some .boolean) :: ws) rr_4_4_4_53) (fun aa zU => aa = #[(.ref pq), (.ref arr), (.long old), (.long x), (.long s'), (.int ids), (.int fl)] ∧ Z.Warmed39 zU.vm ∧ zU.heap = h0) (fun _ _ _ _ _ => True) (fun _ zU zo zU' => ∃ zv zL, zo = .returned zv ∧ QS Z pq arr k h0 n0 zv zU'.heap zL ∧ FrameEnd zU zo zU' zL rr_4_4_4_53.cells rr_4_4_4_53.slots) := by
  refine MetFree.of_bodySF (plainFor_of_name pn_com_example_keyed_work_queue_keyedworkqueue_PendingFoundPinLaw) hisR ?_
  intro p e s m args below meth c s₁ Bd hml0 hP hK
  obtain ⟨rfl, hZ, hh⟩ := hP
  have hx := Bd.exec
  have hby := Bd.bytes
  have hml : c.maxLocals = 29 := hml0
  have hown : s.vm.findClass "com/example/keyed_work_queue/keyedworkqueue/PendingFoundPinLaw" = some m.cls := findClass_of_methodNamed Bd.named
  have hnm := (name_of_methodNamed Bd.named Bd.method).1
  have X0 : Stand p l e rr_4_4_4_53 s m #[(.ref pq), (.ref arr), (.long old), (.long x), (.long s'), (.int ids), (.int fl)] below meth c s₁ [] 0 0 := Stand.of_body Bd
  have e0 : s₁.heap = h0 := by rw [← hh, Bd.state]; rfl
  have N0 := Fr.nil n0
  have pre0 : ∀ t, Steps p.tables e below (s₁.setTop (mkF m 0 #[.val (.ref pq), .val (.ref arr), .val (.long old), .second, .val (.long x), .second, .val (.long s'), .second, .val (.int ids), .val (.int fl), .unset, .unset, .unset, .unset, .unset, .unset, .unset, .unset, .unset, .unset, .unset, .unset, .unset, .unset, .unset, .unset, .unset, .unset, .unset] [])) t → Steps p.tables e below (s₁.setTop (entryFrame m #[(.ref pq), (.ref arr), (.long old), (.long x), (.long s'), (.int ids), (.int fl)] 29)) t := fun t k => castTop (ef_3 m pq arr old x s' ids fl) k
  obtain ⟨jr, sn, PA, LJ, VA⟩ := IV
  obtain ⟨jj, hjj⟩ : ∃ z, ((1000 : Int64) + ((ids &&& (3 : Int32)).toInt64)) = z := ⟨_, rfl⟩
  obtain ⟨tt, htt⟩ : ∃ z, ((1000 : Int64) + (((ids >>> ((2 : Int32) &&& 31)) &&& (3 : Int32)).toInt64)) = z := ⟨_, rfl⟩
  obtain ⟨T1, h1, L1, jr1, r1, r2, r3, r4, X1, e1, N1, ⟨PB, LN, VB, O1, K1⟩, st1⟩ := s1_001 pq arr k cb old x s' ids fl fx fs jr sn oj (own_v2 oj) (own_v3 oj) jj tt X0 hx hZ hw hby hml hown e0 Z0 N0 hjj htt g0_pq g0_arr PA O0 SC LC LJ VA hF hJ hT
  have Z1 : n0 ≤ h1.size := Nat.le_trans Z0 K1.1
  have st2 := s2_01 pq arr k old x s' ids fl (0 : Int32) jj tt r1 r2 r3 r4 fx fs (own_v2 oj) (own_v3 oj) X1 hx hZ hw hby hml hown e1 (by decide) (by decide) VB
  obtain ⟨sm, hsm⟩ : ∃ z, own_sm (True) (own_v2 oj) (own_v3 oj) jj = z := ⟨_, rfl⟩
  rw [hsm] at st2
  obtain ⟨T3, h3, L3, s25, s26, s27, s28, X3, e3, N3, ⟨V3, K3⟩, st3⟩ := s3_0 pq arr k old x s' ids fl (0 : Int32) (0 : Int32) (1 : Int32) jj tt r1 r2 r3 r4 fx fs (own_v2 oj) (own_v3 oj) (1 : Int32) jj sm X1 hx hZ hw hby hml hown e1 (by decide) (by decide) Z1 N1 g0_arr VB
  have Z3 : n0 ≤ h3.size := Nat.le_trans Z1 K3.1
  obtain ⟨T4, h4, L4, X4, e4, N4, ⟨V4, K4⟩, st4⟩ := s4_0_t pq arr k old x s' ids fl (0 : Int32) (0 : Int32) (1 : Int32) jj tt r1 r2 r3 r4 _ _ (own_v2 oj) (own_v3 oj) (1 : Int32) jj sm s25 s26 s27 s28 X3 hx hZ hw hby hml hown e3 (by decide) (by decide) Z3 N3 g0_arr V3
  have hq : (own_same oj (some jj) = true) ↔ ¬ (sm = 0) := hsm ▸ own_smT oj jj
  have hNV : (if ¬ (sm = 0) then (fx, fs) else own_raise (fx, fs) (own_cand old (some (x, s')))) = (own_fl oj (own_or (some jj) none) (fx, fs) (own_cand old (some (x, s')))) := by
    show _ = (if own_same oj (some jj) = true then _ else _)
    by_cases q : own_same oj (some jj) = true
    · rw [if_pos q, if_pos (hq.mp q)]
    · rw [if_neg q, if_neg (fun z => q (hq.mpr z))]
  rw [hNV] at V4
  have V5 : Arv Z h4 arr k .long (4 : Int32) [(.long (own_fl oj (own_or (some jj) none) (fx, fs) (own_cand old (some (x, s')))).1), (.long (own_fl oj (own_or (some jj) none) (fx, fs) (own_cand old (some (x, s')))).2), (.long (own_v2 (own_jo oj (some jj) none))), (.long (own_v3 (own_jo oj (some jj) none)))] (.long (0 : Int64)) := V4
  have LN4 := (LN.keepA K3 VB (ow hw 32 rfl)).keepA K4 V3 (ow hw 32 rfl)
  have ne_pq_arr : pq ≠ arr := own_pe PA.1 VA (ow hw 1 rfl)
  obtain ⟨Epd101, Fapd101, Fbpd101, Fcpd101, Fdpd101⟩ := PB
  have c102 := Fapd101.keep K3 (ninS ne_pq_arr nin0)
  have c103 := c102.keep K4 (ninS ne_pq_arr nin0)
  have c105 := Epd101.keep K3
  have c106 := c105.keep K4
  obtain ⟨cq104, kq104, q104a, q104b, q104c⟩ := isOf hZ e4 c106
  obtain ⟨_, _, ⟨T104, L104, k104, n104⟩, -, X104, ⟨Lc104, hQ104, l104, y104, z104⟩, st104⟩ := X4.virtualBack hx (y := nm_11) (z := nm_11) hown (mvT hZ (ow hw 65 rfl)) (mvT hZ (ow hw 66 rfl)) (notFace_of_selects (args := #[]) (mvT hZ (ow hw 68 rfl))) (mvT hZ (ow hw 68 rfl)) (mvT hZ (ow hw 67 rfl)) (by decide) (backOf (W := 0) (rm11 l Z a0 hw [] pq (own_fl oj (own_or (some jj) none) (fx, fs) (own_cand old (some (x, s')))).1 h4 n0 (Nat.le_trans (Nat.le_trans (Nat.le_trans Z0 K1.1) K3.1) K4.1) c103) hZ (ow hw 69 rfl) (ow hw 2 rfl) (by decide) (by decide)) q104a q104c (g := (mkF m 300 #[.val (.ref pq), .val (.ref arr), .val (.long old), .second, .val (.long x), .second, .val (.long s'), .second, .val (.int ids), .val (.int fl), .val (.int (0 : Int32)), .val (.int (0 : Int32)), .val (.int (1 : Int32)), .val (.long jj), .second, .val (.long tt), .second, .val r1, .val r2, .val r3, .val r4, .val (.int (1 : Int32)), .val (.long jj), .second, .val (.int sm), s25, s26, s27, s28] [(.ref pq)])) rfl (by rw [hml]; rfl) (Steps.refl _) (argsL := []) (rest := []) (lenOf pd_6 rfl) rfl (by show 2 * 0 + _ ≤ _; exact Nat.le_of_eq rfl) (hb hby d3_300) (fun _ _ => ⟨rfl, e4, (by decide : 3 + 0 ≤ _), (by decide : 3 + 0 ≤ _)⟩)
  dsimp only [Pt.U, Pt.locs, Pt.cells, Pt.slots] at X104 l104 y104 z104 st104 hQ104
  subst l104 y104 z104
  obtain ⟨rfl, N104q, e104⟩ := hQ104
  have N104 := Fr.app N4 N104q
  obtain ⟨clz107, Arz107, qz107, Sz107, Nz107, Hz107, Gz107⟩ := id V5
  have hin108 : ¬ ((0 : Int32) < 0 ∨ clz107.slots.size ≤ ((0 : Int32)).toNatClampNeg) := inb_of Sz107 ⟨by decide, by decide⟩
  have hat108 : clz107.slots[((0 : Int32)).toNatClampNeg]? = some (.long (own_fl oj (own_or (some jj) none) (fx, fs) (own_cand old (some (x, s')))).1) := Hz107.at hin108 rfl
  have c109 := Fbpd101.keep K3 (ninS ne_pq_arr nin0)
  have c110 := c109.keep K4 (ninS ne_pq_arr nin0)
  obtain ⟨cq111, kq111, q111a, q111b, q111c⟩ := isOf hZ e104 c106
  obtain ⟨_, _, ⟨T111, L111, k111, n111⟩, -, X111, ⟨Lc111, hQ111, l111, y111, z111⟩, st111⟩ := X104.virtualBack hx (y := nm_12) (z := nm_12) hown (mvT hZ (ow hw 70 rfl)) (mvT hZ (ow hw 71 rfl)) (notFace_of_selects (args := #[]) (mvT hZ (ow hw 73 rfl))) (mvT hZ (ow hw 73 rfl)) (mvT hZ (ow hw 72 rfl)) (by decide) (backOf (W := 0) (rm12 l Z a0 hw [] pq (own_fl oj (own_or (some jj) none) (fx, fs) (own_cand old (some (x, s')))).2 h4 n0 (Nat.le_trans (Nat.le_trans (Nat.le_trans Z0 K1.1) K3.1) K4.1) c110) hZ (ow hw 74 rfl) (ow hw 2 rfl) (by decide) (by decide)) q111a q111c (g := (mkF m 311 #[.val (.ref pq), .val (.ref arr), .val (.long old), .second, .val (.long x), .second, .val (.long s'), .second, .val (.int ids), .val (.int fl), .val (.int (0 : Int32)), .val (.int (0 : Int32)), .val (.int (1 : Int32)), .val (.long jj), .second, .val (.long tt), .second, .val r1, .val r2, .val r3, .val r4, .val (.int (1 : Int32)), .val (.long jj), .second, .val (.int sm), s25, s26, s27, s28] [(.ref pq)])) rfl (by rw [hml]; rfl) (Steps.refl _) (argsL := []) (rest := []) (lenOf pd_6 rfl) rfl (by show 2 * 0 + _ ≤ _; exact Nat.le_of_eq rfl) (hb hby d3_311) (fun _ _ => ⟨rfl, e104, (by decide : 3 + 0 ≤ _), (by decide : 3 + 0 ≤ _)⟩)
  dsimp only [Pt.U, Pt.locs, Pt.cells, Pt.slots] at X111 l111 y111 z111 st111 hQ111
  subst l111 y111 z111
  obtain ⟨rfl, N111q, e111⟩ := hQ111
  have N111 := Fr.app N104 N111q
  obtain ⟨clz112, Arz112, qz112, Sz112, Nz112, Hz112, Gz112⟩ := id V5
  have hin113 : ¬ ((1 : Int32) < 0 ∨ clz112.slots.size ≤ ((1 : Int32)).toNatClampNeg) := inb_of Sz112 ⟨by decide, by decide⟩
  have hat113 : clz112.slots[((1 : Int32)).toNatClampNeg]? = some (.long (own_fl oj (own_or (some jj) none) (fx, fs) (own_cand old (some (x, s')))).2) := Hz112.at hin113 rfl
  have c114 := Fdpd101.keep K3 (ninS ne_pq_arr nin0)
  have c115 := c114.keep K4 (ninS ne_pq_arr nin0)
  obtain ⟨cq116, kq116, q116a, q116b, q116c⟩ := isOf hZ e111 c106
  obtain ⟨_, _, ⟨T116, L116, k116, n116⟩, -, X116, ⟨Lc116, hQ116, l116, y116, z116⟩, st116⟩ := X111.virtualBack hx (y := nm_13) (z := nm_13) hown (mvT hZ (ow hw 75 rfl)) (mvT hZ (ow hw 76 rfl)) (notFace_of_selects (args := #[]) (mvT hZ (ow hw 78 rfl))) (mvT hZ (ow hw 78 rfl)) (mvT hZ (ow hw 77 rfl)) (by decide) (backOf (W := 0) (rm13_1 l Z a0 hw [] pq h4 n0 (Nat.le_trans (Nat.le_trans (Nat.le_trans Z0 K1.1) K3.1) K4.1) c115) hZ (ow hw 79 rfl) (ow hw 2 rfl) (by decide) (by decide)) q116a q116c (g := (mkF m 322 #[.val (.ref pq), .val (.ref arr), .val (.long old), .second, .val (.long x), .second, .val (.long s'), .second, .val (.int ids), .val (.int fl), .val (.int (0 : Int32)), .val (.int (0 : Int32)), .val (.int (1 : Int32)), .val (.long jj), .second, .val (.long tt), .second, .val r1, .val r2, .val r3, .val r4, .val (.int (1 : Int32)), .val (.long jj), .second, .val (.int sm), s25, s26, s27, s28] [(.ref pq)])) rfl (by rw [hml]; rfl) (Steps.refl _) (argsL := []) (rest := []) (lenOf pd_8 rfl) rfl (by show 2 * 0 + _ ≤ _; exact Nat.le_of_eq rfl) (hb hby d3_322) (fun _ _ => ⟨rfl, e111, (by decide : 3 + 0 ≤ _), (by decide : 3 + 0 ≤ _)⟩)
  dsimp only [Pt.U, Pt.locs, Pt.cells, Pt.slots] at X116 l116 y116 z116 st116 hQ116
  subst l116 y116 z116
  obtain ⟨rfl, N116q, e116⟩ := hQ116
  have N116 := Fr.app N111 N116q
  have kp117 : Keep h0 h4 [pq, arr] := ((((Keep.refl h0 [pq, arr]).trans K1 (allS (Or.inl (List.mem_of_getElem? (i := 0) rfl)) all0)).trans K3 (allS (Or.inl (List.mem_of_getElem? (i := 1) rfl)) all0)).trans K4 (allS (Or.inl (List.mem_of_getElem? (i := 1) rfl)) all0))
  have c118 := Fcpd101.keep K3 (ninS ne_pq_arr nin0)
  have c119 := c118.keep K4 (ninS ne_pq_arr nin0)
  obtain ⟨fsq, hr, hrun, hended, hW, hsame⟩ := X116.leave (v := some (.int (1 : Int32))) (fun h => by rw [Bd.returns] at h; cases h)
  refine ⟨_, _, pre0 _ ?_, hrun, hended, _, _, rfl, ?_, ⟨_, rfl⟩, hW, hsame.mono (by decide) (by decide)⟩
  · show Steps p.tables e below (s₁.setTop (mkF m 0 #[.val (.ref pq), .val (.ref arr), .val (.long old), .second, .val (.long x), .second, .val (.long s'), .second, .val (.int ids), .val (.int fl), .unset, .unset, .unset, .unset, .unset, .unset, .unset, .unset, .unset, .unset, .unset, .unset, .unset, .unset, .unset, .unset, .unset, .unset, .unset] [])) _
    refine st1 _ ?_
    refine st2 _ ?_
    refine st3 _ ?_
    refine st4 _ ?_
    refine XS.aloadN X4.here hx rfl (hb hby d3_299) rfl rfl ?_
    refine st104.trans ?_
    refine XS.aloadN X104.here hx rfl (hb hby d3_303) rfl rfl ?_
    refine XS.iconst X104.here hx rfl (hb hby d3_304) ?_
    refine X104.laload hx (j := (0 : Int32)) (v := (.long (own_fl oj (own_or (some jj) none) (fx, fs) (own_cand old (some (x, s')))).1)) (by rw [e104]; exact Arz107.1) (State.isArrayOf_alike hZ.alike Arz107.2.1) Arz107.2.2 hin108 hat108 (g := (mkF m 305 #[.val (.ref pq), .val (.ref arr), .val (.long old), .second, .val (.long x), .second, .val (.long s'), .second, .val (.int ids), .val (.int fl), .val (.int (0 : Int32)), .val (.int (0 : Int32)), .val (.int (1 : Int32)), .val (.long jj), .second, .val (.long tt), .second, .val r1, .val r2, .val r3, .val r4, .val (.int (1 : Int32)), .val (.long jj), .second, .val (.int sm), s25, s26, s27, s28] [(.int (0 : Int32)), (.ref arr), (.long (own_fl oj (own_or (some jj) none) (fx, fs) (own_cand old (some (x, s')))).1)])) rfl rfl (hb hby d3_305) _ ?_
    refine XS.lcmp X104.here hx rfl (hb hby d3_306) rfl ?_
    refine XS.ifNo X104.here hx rfl (hb hby d3_307) rfl ((if0 _ _).trans (teq ((lw_eq _ _).mpr rfl)).2) ?_
    refine XS.aloadN X104.here hx rfl (hb hby d3_310) rfl rfl ?_
    show Steps p.tables e below (T104.setTop (mkF m 311 #[.val (.ref pq), .val (.ref arr), .val (.long old), .second, .val (.long x), .second, .val (.long s'), .second, .val (.int ids), .val (.int fl), .val (.int (0 : Int32)), .val (.int (0 : Int32)), .val (.int (1 : Int32)), .val (.long jj), .second, .val (.long tt), .second, .val r1, .val r2, .val r3, .val r4, .val (.int (1 : Int32)), .val (.long jj), .second, .val (.int sm), s25, s26, s27, s28] [(.ref pq)])) _
    refine st111.trans ?_
    refine XS.aloadN X111.here hx rfl (hb hby d3_314) rfl rfl ?_
    refine XS.iconst X111.here hx rfl (hb hby d3_315) ?_
    refine X111.laload hx (j := (1 : Int32)) (v := (.long (own_fl oj (own_or (some jj) none) (fx, fs) (own_cand old (some (x, s')))).2)) (by rw [e111]; exact Arz112.1) (State.isArrayOf_alike hZ.alike Arz112.2.1) Arz112.2.2 hin113 hat113 (g := (mkF m 316 #[.val (.ref pq), .val (.ref arr), .val (.long old), .second, .val (.long x), .second, .val (.long s'), .second, .val (.int ids), .val (.int fl), .val (.int (0 : Int32)), .val (.int (0 : Int32)), .val (.int (1 : Int32)), .val (.long jj), .second, .val (.long tt), .second, .val r1, .val r2, .val r3, .val r4, .val (.int (1 : Int32)), .val (.long jj), .second, .val (.int sm), s25, s26, s27, s28] [(.int (1 : Int32)), (.ref arr), (.long (own_fl oj (own_or (some jj) none) (fx, fs) (own_cand old (some (x, s')))).2)])) rfl rfl (hb hby d3_316) _ ?_
    refine XS.lcmp X111.here hx rfl (hb hby d3_317) rfl ?_
    refine XS.ifNo X111.here hx rfl (hb hby d3_318) rfl ((if0 _ _).trans (teq ((lw_eq _ _).mpr rfl)).2) ?_
    refine XS.aloadN X111.here hx rfl (hb hby d3_321) rfl rfl ?_
    refine st116.trans ?_
    refine XS.iload X116.here hx rfl (hb hby d3_325) rfl ?_
    show Steps p.tables e below (T116.setTop (mkF m 327 #[.val (.ref pq), .val (.ref arr), .val (.long old), .second, .val (.long x), .second, .val (.long s'), .second, .val (.int ids), .val (.int fl), .val (.int (0 : Int32)), .val (.int (0 : Int32)), .val (.int (1 : Int32)), .val (.long jj), .second, .val (.long tt), .second, .val r1, .val r2, .val r3, .val r4, .val (.int (1 : Int32)), .val (.long jj), .second, .val (.int sm), s25, s26, s27, s28] [(.int (0 : Int32)), (.int (1 : Int32))])) _
    refine XS.ifNo X116.here hx rfl (hb hby d3_327) rfl ((if0 _ _).trans (teq (rfl : (0 : Int32) = (0 : Int32))).2) ?_
    refine XS.iconst X116.here hx rfl (hb hby d3_330) ?_
    refine XS.goto X116.here hx rfl (pc0 := 331) (pc' := 335) rfl (hb hby d3_331) (by decide) (by decide) ?_
    refine XS.icmpNo X116.here hx rfl (hb hby d3_335) rfl (teq (rfl : (1 : Int32) = (1 : Int32))).2 ?_
    refine XS.iconst X116.here hx rfl (hb hby d3_338) ?_
    refine XS.goto X116.here hx rfl (pc0 := 339) (pc' := 343) rfl (hb hby d3_339) (by decide) (by decide) ?_
    show Steps p.tables e below (T116.setTop (mkF m 343 #[.val (.ref pq), .val (.ref arr), .val (.long old), .second, .val (.long x), .second, .val (.long s'), .second, .val (.int ids), .val (.int fl), .val (.int (0 : Int32)), .val (.int (0 : Int32)), .val (.int (1 : Int32)), .val (.long jj), .second, .val (.long tt), .second, .val r1, .val r2, .val r3, .val r4, .val (.int (1 : Int32)), .val (.long jj), .second, .val (.int sm), s25, s26, s27, s28] [(.int (1 : Int32))])) _
    exact retN X116 hx (t := .boolean) Bd.returns (by simp) (hb hby d3_343) hr
  · show QS Z pq arr k h0 n0 _ T116.heap _
    rw [e116]
    exact ⟨rfl, N116, kp117, _, _, _, jr1, _, ⟨c106, c103, c110, c119, c115⟩, LN4, V5⟩
set_option maxRecDepth 65536 in
set_option maxHeartbeats 40000000 in
theorem rm3_010 (l : Launch) (Z : State) (a0 : Array Value) (hw : ∀ d ∈ tables_1, d.before a0 Z = true) (ws : List Jvm.Cond) (pq : Addr) (arr : Addr) (k : ClassId) (cb : Addr) (old : Int64) (x : Int64) (s' : Int64) (ids : Int32) (fl : Int32) (fx : Int64) (fs : Int64) (oj : Option Int64) (h0 : Heap) (n0 : Nat) (Z0 : n0 ≤ h0.size) (g0_pq : n0 ≤ pq) (g0_arr : n0 ≤ arr) (O0 : Old Z n0 h0) (SC : Sta Z Z.heap "java/lang/Long$LongCache" "cache" "[Ljava/lang/Long;" (.ref cb)) (LC : LCache Z cb) (IV : Inv Z h0 pq arr k fx fs oj) (hF : (fl &&& (1 : Int32)) = (0 : Int32)) (hJ : ¬ ((fl &&& (2 : Int32)) = (0 : Int32))) (hT : (fl &&& (4 : Int32)) = (0 : Int32)) :
    MetFree l nm_3 (head1 (Jvm.Cond.code nm_3 method_4_code 29 (some .boolean) :: ws) rr_4_4_4_53) (fun aa zU => aa = #[(.ref pq), (.ref arr), (.long old), (.long x), (.long s'), (.int ids), (.int fl)] ∧ Z.Warmed39 zU.vm ∧ zU.heap = h0) (fun _ _ _ _ _ => True) (fun _ zU zo zU' => ∃ zv zL, zo = .returned zv ∧ QS Z pq arr k h0 n0 zv zU'.heap zL ∧ FrameEnd zU zo zU' zL rr_4_4_4_53.cells rr_4_4_4_53.slots) := by
  refine MetFree.of_bodySF (plainFor_of_name pn_com_example_keyed_work_queue_keyedworkqueue_PendingFoundPinLaw) hisR ?_
  intro p e s m args below meth c s₁ Bd hml0 hP hK
  obtain ⟨rfl, hZ, hh⟩ := hP
  have hx := Bd.exec
  have hby := Bd.bytes
  have hml : c.maxLocals = 29 := hml0
  have hown : s.vm.findClass "com/example/keyed_work_queue/keyedworkqueue/PendingFoundPinLaw" = some m.cls := findClass_of_methodNamed Bd.named
  have hnm := (name_of_methodNamed Bd.named Bd.method).1
  have X0 : Stand p l e rr_4_4_4_53 s m #[(.ref pq), (.ref arr), (.long old), (.long x), (.long s'), (.int ids), (.int fl)] below meth c s₁ [] 0 0 := Stand.of_body Bd
  have e0 : s₁.heap = h0 := by rw [← hh, Bd.state]; rfl
  have N0 := Fr.nil n0
  have pre0 : ∀ t, Steps p.tables e below (s₁.setTop (mkF m 0 #[.val (.ref pq), .val (.ref arr), .val (.long old), .second, .val (.long x), .second, .val (.long s'), .second, .val (.int ids), .val (.int fl), .unset, .unset, .unset, .unset, .unset, .unset, .unset, .unset, .unset, .unset, .unset, .unset, .unset, .unset, .unset, .unset, .unset, .unset, .unset] [])) t → Steps p.tables e below (s₁.setTop (entryFrame m #[(.ref pq), (.ref arr), (.long old), (.long x), (.long s'), (.int ids), (.int fl)] 29)) t := fun t k => castTop (ef_3 m pq arr old x s' ids fl) k
  obtain ⟨jr, sn, PA, LJ, VA⟩ := IV
  obtain ⟨jj, hjj⟩ : ∃ z, ((1000 : Int64) + ((ids &&& (3 : Int32)).toInt64)) = z := ⟨_, rfl⟩
  obtain ⟨tt, htt⟩ : ∃ z, ((1000 : Int64) + (((ids >>> ((2 : Int32) &&& 31)) &&& (3 : Int32)).toInt64)) = z := ⟨_, rfl⟩
  obtain ⟨T1, h1, L1, jr1, r1, r2, r3, r4, X1, e1, N1, ⟨PB, LN, VB, O1, K1⟩, st1⟩ := s1_010 pq arr k cb old x s' ids fl fx fs jr sn oj (own_v2 oj) (own_v3 oj) jj tt X0 hx hZ hw hby hml hown e0 Z0 N0 hjj htt g0_pq g0_arr PA O0 SC LC LJ VA hF hJ hT
  have Z1 : n0 ≤ h1.size := Nat.le_trans Z0 K1.1
  have st2 := s2_10 pq arr k old x s' ids fl (0 : Int32) jj tt r1 r2 r3 r4 fx fs (own_v2 oj) (own_v3 oj) X1 hx hZ hw hby hml hown e1 (by decide) (by decide) VB
  obtain ⟨sm, hsm⟩ : ∃ z, own_sm (True) (own_v2 oj) (own_v3 oj) tt = z := ⟨_, rfl⟩
  rw [hsm] at st2
  obtain ⟨T3, h3, L3, s25, s26, s27, s28, X3, e3, N3, ⟨V3, K3⟩, st3⟩ := s3_0 pq arr k old x s' ids fl (0 : Int32) (1 : Int32) (0 : Int32) jj tt r1 r2 r3 r4 fx fs (own_v2 oj) (own_v3 oj) (1 : Int32) tt sm X1 hx hZ hw hby hml hown e1 (by decide) (by decide) Z1 N1 g0_arr VB
  have Z3 : n0 ≤ h3.size := Nat.le_trans Z1 K3.1
  obtain ⟨T4, h4, L4, X4, e4, N4, ⟨V4, K4⟩, st4⟩ := s4_1 pq arr k old x s' ids fl (0 : Int32) (1 : Int32) (0 : Int32) jj tt r1 r2 r3 r4 _ _ (own_v2 oj) (own_v3 oj) (1 : Int32) tt sm s25 s26 s27 s28 X3 hx hZ hw hby hml hown e3 (by decide) (by decide) Z3 N3 g0_arr V3
  have hq : (own_same oj (some tt) = true) ↔ ¬ (sm = 0) := hsm ▸ own_smT oj tt
  have hNV : (if ¬ (sm = 0) then (fx, fs) else own_raise (fx, fs) (own_cand old (some (x, s')))) = (own_fl oj (own_or none (some tt)) (fx, fs) (own_cand old (some (x, s')))) := by
    show _ = (if own_same oj (some tt) = true then _ else _)
    by_cases q : own_same oj (some tt) = true
    · rw [if_pos q, if_pos (hq.mp q)]
    · rw [if_neg q, if_neg (fun z => q (hq.mpr z))]
  have hJ2 : own_v2 (own_jo oj none (some tt)) = (if ¬ (sm = 0) then ((1 : Int64), tt) else ((0 : Int64), (0 : Int64))).1 ∧ own_v3 (own_jo oj none (some tt)) = (if ¬ (sm = 0) then ((1 : Int64), tt) else ((0 : Int64), (0 : Int64))).2 := by
    show own_v2 (if own_same oj (some tt) = true then some tt else none) = _ ∧ own_v3 (if own_same oj (some tt) = true then some tt else none) = _
    by_cases q : own_same oj (some tt) = true
    · rw [if_pos q, if_pos (hq.mp q)]; exact ⟨rfl, rfl⟩
    · rw [if_neg q, if_neg (fun z => q (hq.mpr z))]; exact ⟨rfl, rfl⟩
  rw [hNV, ← hJ2.1, ← hJ2.2] at V4
  have V5 : Arv Z h4 arr k .long (4 : Int32) [(.long (own_fl oj (own_or none (some tt)) (fx, fs) (own_cand old (some (x, s')))).1), (.long (own_fl oj (own_or none (some tt)) (fx, fs) (own_cand old (some (x, s')))).2), (.long (own_v2 (own_jo oj none (some tt)))), (.long (own_v3 (own_jo oj none (some tt))))] (.long (0 : Int64)) := V4
  have LN4 := (LN.keepA K3 VB (ow hw 32 rfl)).keepA K4 V3 (ow hw 32 rfl)
  have ne_pq_arr : pq ≠ arr := own_pe PA.1 VA (ow hw 1 rfl)
  obtain ⟨Epd101, Fapd101, Fbpd101, Fcpd101, Fdpd101⟩ := PB
  have c102 := Fapd101.keep K3 (ninS ne_pq_arr nin0)
  have c103 := c102.keep K4 (ninS ne_pq_arr nin0)
  have c105 := Epd101.keep K3
  have c106 := c105.keep K4
  obtain ⟨cq104, kq104, q104a, q104b, q104c⟩ := isOf hZ e4 c106
  obtain ⟨_, _, ⟨T104, L104, k104, n104⟩, -, X104, ⟨Lc104, hQ104, l104, y104, z104⟩, st104⟩ := X4.virtualBack hx (y := nm_11) (z := nm_11) hown (mvT hZ (ow hw 65 rfl)) (mvT hZ (ow hw 66 rfl)) (notFace_of_selects (args := #[]) (mvT hZ (ow hw 68 rfl))) (mvT hZ (ow hw 68 rfl)) (mvT hZ (ow hw 67 rfl)) (by decide) (backOf (W := 0) (rm11 l Z a0 hw [] pq (own_fl oj (own_or none (some tt)) (fx, fs) (own_cand old (some (x, s')))).1 h4 n0 (Nat.le_trans (Nat.le_trans (Nat.le_trans Z0 K1.1) K3.1) K4.1) c103) hZ (ow hw 69 rfl) (ow hw 2 rfl) (by decide) (by decide)) q104a q104c (g := (mkF m 300 #[.val (.ref pq), .val (.ref arr), .val (.long old), .second, .val (.long x), .second, .val (.long s'), .second, .val (.int ids), .val (.int fl), .val (.int (0 : Int32)), .val (.int (1 : Int32)), .val (.int (0 : Int32)), .val (.long jj), .second, .val (.long tt), .second, .val r1, .val r2, .val r3, .val r4, .val (.int (1 : Int32)), .val (.long tt), .second, .val (.int sm), s25, s26, s27, s28] [(.ref pq)])) rfl (by rw [hml]; rfl) (Steps.refl _) (argsL := []) (rest := []) (lenOf pd_6 rfl) rfl (by show 2 * 0 + _ ≤ _; exact Nat.le_of_eq rfl) (hb hby d3_300) (fun _ _ => ⟨rfl, e4, (by decide : 3 + 0 ≤ _), (by decide : 3 + 0 ≤ _)⟩)
  dsimp only [Pt.U, Pt.locs, Pt.cells, Pt.slots] at X104 l104 y104 z104 st104 hQ104
  subst l104 y104 z104
  obtain ⟨rfl, N104q, e104⟩ := hQ104
  have N104 := Fr.app N4 N104q
  obtain ⟨clz107, Arz107, qz107, Sz107, Nz107, Hz107, Gz107⟩ := id V5
  have hin108 : ¬ ((0 : Int32) < 0 ∨ clz107.slots.size ≤ ((0 : Int32)).toNatClampNeg) := inb_of Sz107 ⟨by decide, by decide⟩
  have hat108 : clz107.slots[((0 : Int32)).toNatClampNeg]? = some (.long (own_fl oj (own_or none (some tt)) (fx, fs) (own_cand old (some (x, s')))).1) := Hz107.at hin108 rfl
  have c109 := Fbpd101.keep K3 (ninS ne_pq_arr nin0)
  have c110 := c109.keep K4 (ninS ne_pq_arr nin0)
  obtain ⟨cq111, kq111, q111a, q111b, q111c⟩ := isOf hZ e104 c106
  obtain ⟨_, _, ⟨T111, L111, k111, n111⟩, -, X111, ⟨Lc111, hQ111, l111, y111, z111⟩, st111⟩ := X104.virtualBack hx (y := nm_12) (z := nm_12) hown (mvT hZ (ow hw 70 rfl)) (mvT hZ (ow hw 71 rfl)) (notFace_of_selects (args := #[]) (mvT hZ (ow hw 73 rfl))) (mvT hZ (ow hw 73 rfl)) (mvT hZ (ow hw 72 rfl)) (by decide) (backOf (W := 0) (rm12 l Z a0 hw [] pq (own_fl oj (own_or none (some tt)) (fx, fs) (own_cand old (some (x, s')))).2 h4 n0 (Nat.le_trans (Nat.le_trans (Nat.le_trans Z0 K1.1) K3.1) K4.1) c110) hZ (ow hw 74 rfl) (ow hw 2 rfl) (by decide) (by decide)) q111a q111c (g := (mkF m 311 #[.val (.ref pq), .val (.ref arr), .val (.long old), .second, .val (.long x), .second, .val (.long s'), .second, .val (.int ids), .val (.int fl), .val (.int (0 : Int32)), .val (.int (1 : Int32)), .val (.int (0 : Int32)), .val (.long jj), .second, .val (.long tt), .second, .val r1, .val r2, .val r3, .val r4, .val (.int (1 : Int32)), .val (.long tt), .second, .val (.int sm), s25, s26, s27, s28] [(.ref pq)])) rfl (by rw [hml]; rfl) (Steps.refl _) (argsL := []) (rest := []) (lenOf pd_6 rfl) rfl (by show 2 * 0 + _ ≤ _; exact Nat.le_of_eq rfl) (hb hby d3_311) (fun _ _ => ⟨rfl, e104, (by decide : 3 + 0 ≤ _), (by decide : 3 + 0 ≤ _)⟩)
  dsimp only [Pt.U, Pt.locs, Pt.cells, Pt.slots] at X111 l111 y111 z111 st111 hQ111
  subst l111 y111 z111
  obtain ⟨rfl, N111q, e111⟩ := hQ111
  have N111 := Fr.app N104 N111q
  obtain ⟨clz112, Arz112, qz112, Sz112, Nz112, Hz112, Gz112⟩ := id V5
  have hin113 : ¬ ((1 : Int32) < 0 ∨ clz112.slots.size ≤ ((1 : Int32)).toNatClampNeg) := inb_of Sz112 ⟨by decide, by decide⟩
  have hat113 : clz112.slots[((1 : Int32)).toNatClampNeg]? = some (.long (own_fl oj (own_or none (some tt)) (fx, fs) (own_cand old (some (x, s')))).2) := Hz112.at hin113 rfl
  have c114 := Fdpd101.keep K3 (ninS ne_pq_arr nin0)
  have c115 := c114.keep K4 (ninS ne_pq_arr nin0)
  obtain ⟨cq116, kq116, q116a, q116b, q116c⟩ := isOf hZ e111 c106
  obtain ⟨_, _, ⟨T116, L116, k116, n116⟩, -, X116, ⟨Lc116, hQ116, l116, y116, z116⟩, st116⟩ := X111.virtualBack hx (y := nm_13) (z := nm_13) hown (mvT hZ (ow hw 75 rfl)) (mvT hZ (ow hw 76 rfl)) (notFace_of_selects (args := #[]) (mvT hZ (ow hw 78 rfl))) (mvT hZ (ow hw 78 rfl)) (mvT hZ (ow hw 77 rfl)) (by decide) (backOf (W := 0) (rm13_1 l Z a0 hw [] pq h4 n0 (Nat.le_trans (Nat.le_trans (Nat.le_trans Z0 K1.1) K3.1) K4.1) c115) hZ (ow hw 79 rfl) (ow hw 2 rfl) (by decide) (by decide)) q116a q116c (g := (mkF m 322 #[.val (.ref pq), .val (.ref arr), .val (.long old), .second, .val (.long x), .second, .val (.long s'), .second, .val (.int ids), .val (.int fl), .val (.int (0 : Int32)), .val (.int (1 : Int32)), .val (.int (0 : Int32)), .val (.long jj), .second, .val (.long tt), .second, .val r1, .val r2, .val r3, .val r4, .val (.int (1 : Int32)), .val (.long tt), .second, .val (.int sm), s25, s26, s27, s28] [(.ref pq)])) rfl (by rw [hml]; rfl) (Steps.refl _) (argsL := []) (rest := []) (lenOf pd_8 rfl) rfl (by show 2 * 0 + _ ≤ _; exact Nat.le_of_eq rfl) (hb hby d3_322) (fun _ _ => ⟨rfl, e111, (by decide : 3 + 0 ≤ _), (by decide : 3 + 0 ≤ _)⟩)
  dsimp only [Pt.U, Pt.locs, Pt.cells, Pt.slots] at X116 l116 y116 z116 st116 hQ116
  subst l116 y116 z116
  obtain ⟨rfl, N116q, e116⟩ := hQ116
  have N116 := Fr.app N111 N116q
  have kp117 : Keep h0 h4 [pq, arr] := ((((Keep.refl h0 [pq, arr]).trans K1 (allS (Or.inl (List.mem_of_getElem? (i := 0) rfl)) all0)).trans K3 (allS (Or.inl (List.mem_of_getElem? (i := 1) rfl)) all0)).trans K4 (allS (Or.inl (List.mem_of_getElem? (i := 1) rfl)) all0))
  have c118 := Fcpd101.keep K3 (ninS ne_pq_arr nin0)
  have c119 := c118.keep K4 (ninS ne_pq_arr nin0)
  obtain ⟨fsq, hr, hrun, hended, hW, hsame⟩ := X116.leave (v := some (.int (1 : Int32))) (fun h => by rw [Bd.returns] at h; cases h)
  refine ⟨_, _, pre0 _ ?_, hrun, hended, _, _, rfl, ?_, ⟨_, rfl⟩, hW, hsame.mono (by decide) (by decide)⟩
  · show Steps p.tables e below (s₁.setTop (mkF m 0 #[.val (.ref pq), .val (.ref arr), .val (.long old), .second, .val (.long x), .second, .val (.long s'), .second, .val (.int ids), .val (.int fl), .unset, .unset, .unset, .unset, .unset, .unset, .unset, .unset, .unset, .unset, .unset, .unset, .unset, .unset, .unset, .unset, .unset, .unset, .unset] [])) _
    refine st1 _ ?_
    refine st2 _ ?_
    refine st3 _ ?_
    refine st4 _ ?_
    refine XS.aloadN X4.here hx rfl (hb hby d3_299) rfl rfl ?_
    refine st104.trans ?_
    refine XS.aloadN X104.here hx rfl (hb hby d3_303) rfl rfl ?_
    refine XS.iconst X104.here hx rfl (hb hby d3_304) ?_
    refine X104.laload hx (j := (0 : Int32)) (v := (.long (own_fl oj (own_or none (some tt)) (fx, fs) (own_cand old (some (x, s')))).1)) (by rw [e104]; exact Arz107.1) (State.isArrayOf_alike hZ.alike Arz107.2.1) Arz107.2.2 hin108 hat108 (g := (mkF m 305 #[.val (.ref pq), .val (.ref arr), .val (.long old), .second, .val (.long x), .second, .val (.long s'), .second, .val (.int ids), .val (.int fl), .val (.int (0 : Int32)), .val (.int (1 : Int32)), .val (.int (0 : Int32)), .val (.long jj), .second, .val (.long tt), .second, .val r1, .val r2, .val r3, .val r4, .val (.int (1 : Int32)), .val (.long tt), .second, .val (.int sm), s25, s26, s27, s28] [(.int (0 : Int32)), (.ref arr), (.long (own_fl oj (own_or none (some tt)) (fx, fs) (own_cand old (some (x, s')))).1)])) rfl rfl (hb hby d3_305) _ ?_
    refine XS.lcmp X104.here hx rfl (hb hby d3_306) rfl ?_
    refine XS.ifNo X104.here hx rfl (hb hby d3_307) rfl ((if0 _ _).trans (teq ((lw_eq _ _).mpr rfl)).2) ?_
    refine XS.aloadN X104.here hx rfl (hb hby d3_310) rfl rfl ?_
    show Steps p.tables e below (T104.setTop (mkF m 311 #[.val (.ref pq), .val (.ref arr), .val (.long old), .second, .val (.long x), .second, .val (.long s'), .second, .val (.int ids), .val (.int fl), .val (.int (0 : Int32)), .val (.int (1 : Int32)), .val (.int (0 : Int32)), .val (.long jj), .second, .val (.long tt), .second, .val r1, .val r2, .val r3, .val r4, .val (.int (1 : Int32)), .val (.long tt), .second, .val (.int sm), s25, s26, s27, s28] [(.ref pq)])) _
    refine st111.trans ?_
    refine XS.aloadN X111.here hx rfl (hb hby d3_314) rfl rfl ?_
    refine XS.iconst X111.here hx rfl (hb hby d3_315) ?_
    refine X111.laload hx (j := (1 : Int32)) (v := (.long (own_fl oj (own_or none (some tt)) (fx, fs) (own_cand old (some (x, s')))).2)) (by rw [e111]; exact Arz112.1) (State.isArrayOf_alike hZ.alike Arz112.2.1) Arz112.2.2 hin113 hat113 (g := (mkF m 316 #[.val (.ref pq), .val (.ref arr), .val (.long old), .second, .val (.long x), .second, .val (.long s'), .second, .val (.int ids), .val (.int fl), .val (.int (0 : Int32)), .val (.int (1 : Int32)), .val (.int (0 : Int32)), .val (.long jj), .second, .val (.long tt), .second, .val r1, .val r2, .val r3, .val r4, .val (.int (1 : Int32)), .val (.long tt), .second, .val (.int sm), s25, s26, s27, s28] [(.int (1 : Int32)), (.ref arr), (.long (own_fl oj (own_or none (some tt)) (fx, fs) (own_cand old (some (x, s')))).2)])) rfl rfl (hb hby d3_316) _ ?_
    refine XS.lcmp X111.here hx rfl (hb hby d3_317) rfl ?_
    refine XS.ifNo X111.here hx rfl (hb hby d3_318) rfl ((if0 _ _).trans (teq ((lw_eq _ _).mpr rfl)).2) ?_
    refine XS.aloadN X111.here hx rfl (hb hby d3_321) rfl rfl ?_
    refine st116.trans ?_
    refine XS.iload X116.here hx rfl (hb hby d3_325) rfl ?_
    show Steps p.tables e below (T116.setTop (mkF m 327 #[.val (.ref pq), .val (.ref arr), .val (.long old), .second, .val (.long x), .second, .val (.long s'), .second, .val (.int ids), .val (.int fl), .val (.int (0 : Int32)), .val (.int (1 : Int32)), .val (.int (0 : Int32)), .val (.long jj), .second, .val (.long tt), .second, .val r1, .val r2, .val r3, .val r4, .val (.int (1 : Int32)), .val (.long tt), .second, .val (.int sm), s25, s26, s27, s28] [(.int (0 : Int32)), (.int (1 : Int32))])) _
    refine XS.ifNo X116.here hx rfl (hb hby d3_327) rfl ((if0 _ _).trans (teq (rfl : (0 : Int32) = (0 : Int32))).2) ?_
    refine XS.iconst X116.here hx rfl (hb hby d3_330) ?_
    refine XS.goto X116.here hx rfl (pc0 := 331) (pc' := 335) rfl (hb hby d3_331) (by decide) (by decide) ?_
    refine XS.icmpNo X116.here hx rfl (hb hby d3_335) rfl (teq (rfl : (1 : Int32) = (1 : Int32))).2 ?_
    refine XS.iconst X116.here hx rfl (hb hby d3_338) ?_
    refine XS.goto X116.here hx rfl (pc0 := 339) (pc' := 343) rfl (hb hby d3_339) (by decide) (by decide) ?_
    show Steps p.tables e below (T116.setTop (mkF m 343 #[.val (.ref pq), .val (.ref arr), .val (.long old), .second, .val (.long x), .second, .val (.long s'), .second, .val (.int ids), .val (.int fl), .val (.int (0 : Int32)), .val (.int (1 : Int32)), .val (.int (0 : Int32)), .val (.long jj), .second, .val (.long tt), .second, .val r1, .val r2, .val r3, .val r4, .val (.int (1 : Int32)), .val (.long tt), .second, .val (.int sm), s25, s26, s27, s28] [(.int (1 : Int32))])) _
    exact retN X116 hx (t := .boolean) Bd.returns (by simp) (hb hby d3_343) hr
  · show QS Z pq arr k h0 n0 _ T116.heap _
    rw [e116]
    exact ⟨rfl, N116, kp117, _, _, _, jr1, _, ⟨c106, c103, c110, c119, c115⟩, LN4, V5⟩
set_option maxRecDepth 65536 in
set_option maxHeartbeats 40000000 in
theorem rm3_011 (l : Launch) (Z : State) (a0 : Array Value) (hw : ∀ d ∈ tables_1, d.before a0 Z = true) (ws : List Jvm.Cond) (pq : Addr) (arr : Addr) (k : ClassId) (cb : Addr) (old : Int64) (x : Int64) (s' : Int64) (ids : Int32) (fl : Int32) (fx : Int64) (fs : Int64) (oj : Option Int64) (h0 : Heap) (n0 : Nat) (Z0 : n0 ≤ h0.size) (g0_pq : n0 ≤ pq) (g0_arr : n0 ≤ arr) (O0 : Old Z n0 h0) (SC : Sta Z Z.heap "java/lang/Long$LongCache" "cache" "[Ljava/lang/Long;" (.ref cb)) (LC : LCache Z cb) (IV : Inv Z h0 pq arr k fx fs oj) (hF : (fl &&& (1 : Int32)) = (0 : Int32)) (hJ : ¬ ((fl &&& (2 : Int32)) = (0 : Int32))) (hT : ¬ ((fl &&& (4 : Int32)) = (0 : Int32))) :
    MetFree l nm_3 (head1 (Jvm.Cond.code nm_3 method_4_code 29 (some .boolean) :: ws) rr_4_4_4_53) (fun aa zU => aa = #[(.ref pq), (.ref arr), (.long old), (.long x), (.long s'), (.int ids), (.int fl)] ∧ Z.Warmed39 zU.vm ∧ zU.heap = h0) (fun _ _ _ _ _ => True) (fun _ zU zo zU' => ∃ zv zL, zo = .returned zv ∧ QS Z pq arr k h0 n0 zv zU'.heap zL ∧ FrameEnd zU zo zU' zL rr_4_4_4_53.cells rr_4_4_4_53.slots) := by
  refine MetFree.of_bodySF (plainFor_of_name pn_com_example_keyed_work_queue_keyedworkqueue_PendingFoundPinLaw) hisR ?_
  intro p e s m args below meth c s₁ Bd hml0 hP hK
  obtain ⟨rfl, hZ, hh⟩ := hP
  have hx := Bd.exec
  have hby := Bd.bytes
  have hml : c.maxLocals = 29 := hml0
  have hown : s.vm.findClass "com/example/keyed_work_queue/keyedworkqueue/PendingFoundPinLaw" = some m.cls := findClass_of_methodNamed Bd.named
  have hnm := (name_of_methodNamed Bd.named Bd.method).1
  have X0 : Stand p l e rr_4_4_4_53 s m #[(.ref pq), (.ref arr), (.long old), (.long x), (.long s'), (.int ids), (.int fl)] below meth c s₁ [] 0 0 := Stand.of_body Bd
  have e0 : s₁.heap = h0 := by rw [← hh, Bd.state]; rfl
  have N0 := Fr.nil n0
  have pre0 : ∀ t, Steps p.tables e below (s₁.setTop (mkF m 0 #[.val (.ref pq), .val (.ref arr), .val (.long old), .second, .val (.long x), .second, .val (.long s'), .second, .val (.int ids), .val (.int fl), .unset, .unset, .unset, .unset, .unset, .unset, .unset, .unset, .unset, .unset, .unset, .unset, .unset, .unset, .unset, .unset, .unset, .unset, .unset] [])) t → Steps p.tables e below (s₁.setTop (entryFrame m #[(.ref pq), (.ref arr), (.long old), (.long x), (.long s'), (.int ids), (.int fl)] 29)) t := fun t k => castTop (ef_3 m pq arr old x s' ids fl) k
  obtain ⟨jr, sn, PA, LJ, VA⟩ := IV
  obtain ⟨jj, hjj⟩ : ∃ z, ((1000 : Int64) + ((ids &&& (3 : Int32)).toInt64)) = z := ⟨_, rfl⟩
  obtain ⟨tt, htt⟩ : ∃ z, ((1000 : Int64) + (((ids >>> ((2 : Int32) &&& 31)) &&& (3 : Int32)).toInt64)) = z := ⟨_, rfl⟩
  obtain ⟨T1, h1, L1, jr1, r1, r2, r3, r4, X1, e1, N1, ⟨PB, LN, VB, O1, K1⟩, st1⟩ := s1_011 pq arr k cb old x s' ids fl fx fs jr sn oj (own_v2 oj) (own_v3 oj) jj tt X0 hx hZ hw hby hml hown e0 Z0 N0 hjj htt g0_pq g0_arr PA O0 SC LC LJ VA hF hJ hT
  have Z1 : n0 ≤ h1.size := Nat.le_trans Z0 K1.1
  have st2 := s2_11 pq arr k old x s' ids fl (0 : Int32) jj tt r1 r2 r3 r4 fx fs (own_v2 oj) (own_v3 oj) X1 hx hZ hw hby hml hown e1 (by decide) (by decide) VB
  obtain ⟨sm, hsm⟩ : ∃ z, own_sm (False) (own_v2 oj) (own_v3 oj) tt = z := ⟨_, rfl⟩
  rw [hsm] at st2
  obtain ⟨T3, h3, L3, s25, s26, s27, s28, X3, e3, N3, ⟨V3, K3⟩, st3⟩ := s3_0 pq arr k old x s' ids fl (0 : Int32) (1 : Int32) (1 : Int32) jj tt r1 r2 r3 r4 fx fs (own_v2 oj) (own_v3 oj) (0 : Int32) tt sm X1 hx hZ hw hby hml hown e1 (by decide) (by decide) Z1 N1 g0_arr VB
  have Z3 : n0 ≤ h3.size := Nat.le_trans Z1 K3.1
  obtain ⟨T4, h4, L4, X4, e4, N4, ⟨V4, K4⟩, st4⟩ := s4_1 pq arr k old x s' ids fl (0 : Int32) (1 : Int32) (1 : Int32) jj tt r1 r2 r3 r4 _ _ (own_v2 oj) (own_v3 oj) (0 : Int32) tt sm s25 s26 s27 s28 X3 hx hZ hw hby hml hown e3 (by decide) (by decide) Z3 N3 g0_arr V3
  have hq : (own_same oj none = true) ↔ ¬ (sm = 0) := by rw [own_smF, ← hsm, own_smZ]; simp
  have hNV : (if ¬ (sm = 0) then (fx, fs) else own_raise (fx, fs) (own_cand old (some (x, s')))) = (own_fl oj (own_or none none) (fx, fs) (own_cand old (some (x, s')))) := by
    show _ = (if own_same oj none = true then _ else _)
    by_cases q : own_same oj none = true
    · rw [if_pos q, if_pos (hq.mp q)]
    · rw [if_neg q, if_neg (fun z => q (hq.mpr z))]
  have hJ2 : own_v2 (own_jo oj none none) = (if ¬ (sm = 0) then ((1 : Int64), tt) else ((0 : Int64), (0 : Int64))).1 ∧ own_v3 (own_jo oj none none) = (if ¬ (sm = 0) then ((1 : Int64), tt) else ((0 : Int64), (0 : Int64))).2 := by
    rw [show (own_jo oj none none) = none from by unfold own_jo; split <;> rfl]
    rw [if_neg (fun z => absurd (hq.mpr z) (by rw [own_smF]; decide))]; exact ⟨rfl, rfl⟩
  rw [hNV, ← hJ2.1, ← hJ2.2] at V4
  have V5 : Arv Z h4 arr k .long (4 : Int32) [(.long (own_fl oj (own_or none none) (fx, fs) (own_cand old (some (x, s')))).1), (.long (own_fl oj (own_or none none) (fx, fs) (own_cand old (some (x, s')))).2), (.long (own_v2 (own_jo oj none none))), (.long (own_v3 (own_jo oj none none)))] (.long (0 : Int64)) := V4
  have LN4 := (LN.keepA K3 VB (ow hw 32 rfl)).keepA K4 V3 (ow hw 32 rfl)
  have ne_pq_arr : pq ≠ arr := own_pe PA.1 VA (ow hw 1 rfl)
  obtain ⟨Epd101, Fapd101, Fbpd101, Fcpd101, Fdpd101⟩ := PB
  have c102 := Fapd101.keep K3 (ninS ne_pq_arr nin0)
  have c103 := c102.keep K4 (ninS ne_pq_arr nin0)
  have c105 := Epd101.keep K3
  have c106 := c105.keep K4
  obtain ⟨cq104, kq104, q104a, q104b, q104c⟩ := isOf hZ e4 c106
  obtain ⟨_, _, ⟨T104, L104, k104, n104⟩, -, X104, ⟨Lc104, hQ104, l104, y104, z104⟩, st104⟩ := X4.virtualBack hx (y := nm_11) (z := nm_11) hown (mvT hZ (ow hw 65 rfl)) (mvT hZ (ow hw 66 rfl)) (notFace_of_selects (args := #[]) (mvT hZ (ow hw 68 rfl))) (mvT hZ (ow hw 68 rfl)) (mvT hZ (ow hw 67 rfl)) (by decide) (backOf (W := 0) (rm11 l Z a0 hw [] pq (own_fl oj (own_or none none) (fx, fs) (own_cand old (some (x, s')))).1 h4 n0 (Nat.le_trans (Nat.le_trans (Nat.le_trans Z0 K1.1) K3.1) K4.1) c103) hZ (ow hw 69 rfl) (ow hw 2 rfl) (by decide) (by decide)) q104a q104c (g := (mkF m 300 #[.val (.ref pq), .val (.ref arr), .val (.long old), .second, .val (.long x), .second, .val (.long s'), .second, .val (.int ids), .val (.int fl), .val (.int (0 : Int32)), .val (.int (1 : Int32)), .val (.int (1 : Int32)), .val (.long jj), .second, .val (.long tt), .second, .val r1, .val r2, .val r3, .val r4, .val (.int (0 : Int32)), .val (.long tt), .second, .val (.int sm), s25, s26, s27, s28] [(.ref pq)])) rfl (by rw [hml]; rfl) (Steps.refl _) (argsL := []) (rest := []) (lenOf pd_6 rfl) rfl (by show 2 * 0 + _ ≤ _; exact Nat.le_of_eq rfl) (hb hby d3_300) (fun _ _ => ⟨rfl, e4, (by decide : 2 + 0 ≤ _), (by decide : 2 + 0 ≤ _)⟩)
  dsimp only [Pt.U, Pt.locs, Pt.cells, Pt.slots] at X104 l104 y104 z104 st104 hQ104
  subst l104 y104 z104
  obtain ⟨rfl, N104q, e104⟩ := hQ104
  have N104 := Fr.app N4 N104q
  obtain ⟨clz107, Arz107, qz107, Sz107, Nz107, Hz107, Gz107⟩ := id V5
  have hin108 : ¬ ((0 : Int32) < 0 ∨ clz107.slots.size ≤ ((0 : Int32)).toNatClampNeg) := inb_of Sz107 ⟨by decide, by decide⟩
  have hat108 : clz107.slots[((0 : Int32)).toNatClampNeg]? = some (.long (own_fl oj (own_or none none) (fx, fs) (own_cand old (some (x, s')))).1) := Hz107.at hin108 rfl
  have c109 := Fbpd101.keep K3 (ninS ne_pq_arr nin0)
  have c110 := c109.keep K4 (ninS ne_pq_arr nin0)
  obtain ⟨cq111, kq111, q111a, q111b, q111c⟩ := isOf hZ e104 c106
  obtain ⟨_, _, ⟨T111, L111, k111, n111⟩, -, X111, ⟨Lc111, hQ111, l111, y111, z111⟩, st111⟩ := X104.virtualBack hx (y := nm_12) (z := nm_12) hown (mvT hZ (ow hw 70 rfl)) (mvT hZ (ow hw 71 rfl)) (notFace_of_selects (args := #[]) (mvT hZ (ow hw 73 rfl))) (mvT hZ (ow hw 73 rfl)) (mvT hZ (ow hw 72 rfl)) (by decide) (backOf (W := 0) (rm12 l Z a0 hw [] pq (own_fl oj (own_or none none) (fx, fs) (own_cand old (some (x, s')))).2 h4 n0 (Nat.le_trans (Nat.le_trans (Nat.le_trans Z0 K1.1) K3.1) K4.1) c110) hZ (ow hw 74 rfl) (ow hw 2 rfl) (by decide) (by decide)) q111a q111c (g := (mkF m 311 #[.val (.ref pq), .val (.ref arr), .val (.long old), .second, .val (.long x), .second, .val (.long s'), .second, .val (.int ids), .val (.int fl), .val (.int (0 : Int32)), .val (.int (1 : Int32)), .val (.int (1 : Int32)), .val (.long jj), .second, .val (.long tt), .second, .val r1, .val r2, .val r3, .val r4, .val (.int (0 : Int32)), .val (.long tt), .second, .val (.int sm), s25, s26, s27, s28] [(.ref pq)])) rfl (by rw [hml]; rfl) (Steps.refl _) (argsL := []) (rest := []) (lenOf pd_6 rfl) rfl (by show 2 * 0 + _ ≤ _; exact Nat.le_of_eq rfl) (hb hby d3_311) (fun _ _ => ⟨rfl, e104, (by decide : 2 + 0 ≤ _), (by decide : 2 + 0 ≤ _)⟩)
  dsimp only [Pt.U, Pt.locs, Pt.cells, Pt.slots] at X111 l111 y111 z111 st111 hQ111
  subst l111 y111 z111
  obtain ⟨rfl, N111q, e111⟩ := hQ111
  have N111 := Fr.app N104 N111q
  obtain ⟨clz112, Arz112, qz112, Sz112, Nz112, Hz112, Gz112⟩ := id V5
  have hin113 : ¬ ((1 : Int32) < 0 ∨ clz112.slots.size ≤ ((1 : Int32)).toNatClampNeg) := inb_of Sz112 ⟨by decide, by decide⟩
  have hat113 : clz112.slots[((1 : Int32)).toNatClampNeg]? = some (.long (own_fl oj (own_or none none) (fx, fs) (own_cand old (some (x, s')))).2) := Hz112.at hin113 rfl
  have c114 := Fdpd101.keep K3 (ninS ne_pq_arr nin0)
  have c115 := c114.keep K4 (ninS ne_pq_arr nin0)
  obtain ⟨cq116, kq116, q116a, q116b, q116c⟩ := isOf hZ e111 c106
  obtain ⟨_, _, ⟨T116, L116, k116, n116⟩, -, X116, ⟨Lc116, hQ116, l116, y116, z116⟩, st116⟩ := X111.virtualBack hx (y := nm_13) (z := nm_13) hown (mvT hZ (ow hw 75 rfl)) (mvT hZ (ow hw 76 rfl)) (notFace_of_selects (args := #[]) (mvT hZ (ow hw 78 rfl))) (mvT hZ (ow hw 78 rfl)) (mvT hZ (ow hw 77 rfl)) (by decide) (backOf (W := 0) (rm13_1 l Z a0 hw [] pq h4 n0 (Nat.le_trans (Nat.le_trans (Nat.le_trans Z0 K1.1) K3.1) K4.1) c115) hZ (ow hw 79 rfl) (ow hw 2 rfl) (by decide) (by decide)) q116a q116c (g := (mkF m 322 #[.val (.ref pq), .val (.ref arr), .val (.long old), .second, .val (.long x), .second, .val (.long s'), .second, .val (.int ids), .val (.int fl), .val (.int (0 : Int32)), .val (.int (1 : Int32)), .val (.int (1 : Int32)), .val (.long jj), .second, .val (.long tt), .second, .val r1, .val r2, .val r3, .val r4, .val (.int (0 : Int32)), .val (.long tt), .second, .val (.int sm), s25, s26, s27, s28] [(.ref pq)])) rfl (by rw [hml]; rfl) (Steps.refl _) (argsL := []) (rest := []) (lenOf pd_8 rfl) rfl (by show 2 * 0 + _ ≤ _; exact Nat.le_of_eq rfl) (hb hby d3_322) (fun _ _ => ⟨rfl, e111, (by decide : 2 + 0 ≤ _), (by decide : 2 + 0 ≤ _)⟩)
  dsimp only [Pt.U, Pt.locs, Pt.cells, Pt.slots] at X116 l116 y116 z116 st116 hQ116
  subst l116 y116 z116
  obtain ⟨rfl, N116q, e116⟩ := hQ116
  have N116 := Fr.app N111 N116q
  have kp117 : Keep h0 h4 [pq, arr] := ((((Keep.refl h0 [pq, arr]).trans K1 (allS (Or.inl (List.mem_of_getElem? (i := 0) rfl)) all0)).trans K3 (allS (Or.inl (List.mem_of_getElem? (i := 1) rfl)) all0)).trans K4 (allS (Or.inl (List.mem_of_getElem? (i := 1) rfl)) all0))
  have c118 := Fcpd101.keep K3 (ninS ne_pq_arr nin0)
  have c119 := c118.keep K4 (ninS ne_pq_arr nin0)
  obtain ⟨fsq, hr, hrun, hended, hW, hsame⟩ := X116.leave (v := some (.int (1 : Int32))) (fun h => by rw [Bd.returns] at h; cases h)
  refine ⟨_, _, pre0 _ ?_, hrun, hended, _, _, rfl, ?_, ⟨_, rfl⟩, hW, hsame.mono (by decide) (by decide)⟩
  · show Steps p.tables e below (s₁.setTop (mkF m 0 #[.val (.ref pq), .val (.ref arr), .val (.long old), .second, .val (.long x), .second, .val (.long s'), .second, .val (.int ids), .val (.int fl), .unset, .unset, .unset, .unset, .unset, .unset, .unset, .unset, .unset, .unset, .unset, .unset, .unset, .unset, .unset, .unset, .unset, .unset, .unset] [])) _
    refine st1 _ ?_
    refine st2 _ ?_
    refine st3 _ ?_
    refine st4 _ ?_
    refine XS.aloadN X4.here hx rfl (hb hby d3_299) rfl rfl ?_
    refine st104.trans ?_
    refine XS.aloadN X104.here hx rfl (hb hby d3_303) rfl rfl ?_
    refine XS.iconst X104.here hx rfl (hb hby d3_304) ?_
    refine X104.laload hx (j := (0 : Int32)) (v := (.long (own_fl oj (own_or none none) (fx, fs) (own_cand old (some (x, s')))).1)) (by rw [e104]; exact Arz107.1) (State.isArrayOf_alike hZ.alike Arz107.2.1) Arz107.2.2 hin108 hat108 (g := (mkF m 305 #[.val (.ref pq), .val (.ref arr), .val (.long old), .second, .val (.long x), .second, .val (.long s'), .second, .val (.int ids), .val (.int fl), .val (.int (0 : Int32)), .val (.int (1 : Int32)), .val (.int (1 : Int32)), .val (.long jj), .second, .val (.long tt), .second, .val r1, .val r2, .val r3, .val r4, .val (.int (0 : Int32)), .val (.long tt), .second, .val (.int sm), s25, s26, s27, s28] [(.int (0 : Int32)), (.ref arr), (.long (own_fl oj (own_or none none) (fx, fs) (own_cand old (some (x, s')))).1)])) rfl rfl (hb hby d3_305) _ ?_
    refine XS.lcmp X104.here hx rfl (hb hby d3_306) rfl ?_
    refine XS.ifNo X104.here hx rfl (hb hby d3_307) rfl ((if0 _ _).trans (teq ((lw_eq _ _).mpr rfl)).2) ?_
    refine XS.aloadN X104.here hx rfl (hb hby d3_310) rfl rfl ?_
    show Steps p.tables e below (T104.setTop (mkF m 311 #[.val (.ref pq), .val (.ref arr), .val (.long old), .second, .val (.long x), .second, .val (.long s'), .second, .val (.int ids), .val (.int fl), .val (.int (0 : Int32)), .val (.int (1 : Int32)), .val (.int (1 : Int32)), .val (.long jj), .second, .val (.long tt), .second, .val r1, .val r2, .val r3, .val r4, .val (.int (0 : Int32)), .val (.long tt), .second, .val (.int sm), s25, s26, s27, s28] [(.ref pq)])) _
    refine st111.trans ?_
    refine XS.aloadN X111.here hx rfl (hb hby d3_314) rfl rfl ?_
    refine XS.iconst X111.here hx rfl (hb hby d3_315) ?_
    refine X111.laload hx (j := (1 : Int32)) (v := (.long (own_fl oj (own_or none none) (fx, fs) (own_cand old (some (x, s')))).2)) (by rw [e111]; exact Arz112.1) (State.isArrayOf_alike hZ.alike Arz112.2.1) Arz112.2.2 hin113 hat113 (g := (mkF m 316 #[.val (.ref pq), .val (.ref arr), .val (.long old), .second, .val (.long x), .second, .val (.long s'), .second, .val (.int ids), .val (.int fl), .val (.int (0 : Int32)), .val (.int (1 : Int32)), .val (.int (1 : Int32)), .val (.long jj), .second, .val (.long tt), .second, .val r1, .val r2, .val r3, .val r4, .val (.int (0 : Int32)), .val (.long tt), .second, .val (.int sm), s25, s26, s27, s28] [(.int (1 : Int32)), (.ref arr), (.long (own_fl oj (own_or none none) (fx, fs) (own_cand old (some (x, s')))).2)])) rfl rfl (hb hby d3_316) _ ?_
    refine XS.lcmp X111.here hx rfl (hb hby d3_317) rfl ?_
    refine XS.ifNo X111.here hx rfl (hb hby d3_318) rfl ((if0 _ _).trans (teq ((lw_eq _ _).mpr rfl)).2) ?_
    refine XS.aloadN X111.here hx rfl (hb hby d3_321) rfl rfl ?_
    refine st116.trans ?_
    refine XS.iload X116.here hx rfl (hb hby d3_325) rfl ?_
    show Steps p.tables e below (T116.setTop (mkF m 327 #[.val (.ref pq), .val (.ref arr), .val (.long old), .second, .val (.long x), .second, .val (.long s'), .second, .val (.int ids), .val (.int fl), .val (.int (0 : Int32)), .val (.int (1 : Int32)), .val (.int (1 : Int32)), .val (.long jj), .second, .val (.long tt), .second, .val r1, .val r2, .val r3, .val r4, .val (.int (0 : Int32)), .val (.long tt), .second, .val (.int sm), s25, s26, s27, s28] [(.int (0 : Int32)), (.int (1 : Int32))])) _
    refine XS.ifNo X116.here hx rfl (hb hby d3_327) rfl ((if0 _ _).trans (teq (rfl : (0 : Int32) = (0 : Int32))).2) ?_
    refine XS.iconst X116.here hx rfl (hb hby d3_330) ?_
    refine XS.goto X116.here hx rfl (pc0 := 331) (pc' := 335) rfl (hb hby d3_331) (by decide) (by decide) ?_
    refine XS.icmpNo X116.here hx rfl (hb hby d3_335) rfl (teq (rfl : (1 : Int32) = (1 : Int32))).2 ?_
    refine XS.iconst X116.here hx rfl (hb hby d3_338) ?_
    refine XS.goto X116.here hx rfl (pc0 := 339) (pc' := 343) rfl (hb hby d3_339) (by decide) (by decide) ?_
    show Steps p.tables e below (T116.setTop (mkF m 343 #[.val (.ref pq), .val (.ref arr), .val (.long old), .second, .val (.long x), .second, .val (.long s'), .second, .val (.int ids), .val (.int fl), .val (.int (0 : Int32)), .val (.int (1 : Int32)), .val (.int (1 : Int32)), .val (.long jj), .second, .val (.long tt), .second, .val r1, .val r2, .val r3, .val r4, .val (.int (0 : Int32)), .val (.long tt), .second, .val (.int sm), s25, s26, s27, s28] [(.int (1 : Int32))])) _
    exact retN X116 hx (t := .boolean) Bd.returns (by simp) (hb hby d3_343) hr
  · show QS Z pq arr k h0 n0 _ T116.heap _
    rw [e116]
    exact ⟨rfl, N116, kp117, _, _, _, jr1, _, ⟨c106, c103, c110, c119, c115⟩, LN4, V5⟩
theorem d3_334 : decode method_4_code 334 = .ok (.iconst 0, 1) := by decide +kernel
set_option maxRecDepth 65536 in
set_option maxHeartbeats 40000000 in
theorem rm3_100 (l : Launch) (Z : State) (a0 : Array Value) (hw : ∀ d ∈ tables_1, d.before a0 Z = true) (ws : List Jvm.Cond) (pq : Addr) (arr : Addr) (k : ClassId) (cb : Addr) (old : Int64) (x : Int64) (s' : Int64) (ids : Int32) (fl : Int32) (fx : Int64) (fs : Int64) (oj : Option Int64) (h0 : Heap) (n0 : Nat) (Z0 : n0 ≤ h0.size) (g0_pq : n0 ≤ pq) (g0_arr : n0 ≤ arr) (O0 : Old Z n0 h0) (SC : Sta Z Z.heap "java/lang/Long$LongCache" "cache" "[Ljava/lang/Long;" (.ref cb)) (LC : LCache Z cb) (IV : Inv Z h0 pq arr k fx fs oj) (hF : ¬ ((fl &&& (1 : Int32)) = (0 : Int32))) (hJ : (fl &&& (2 : Int32)) = (0 : Int32)) (hT : (fl &&& (4 : Int32)) = (0 : Int32)) :
    MetFree l nm_3 (head1 (Jvm.Cond.code nm_3 method_4_code 29 (some .boolean) :: ws) rr_4_4_4_53) (fun aa zU => aa = #[(.ref pq), (.ref arr), (.long old), (.long x), (.long s'), (.int ids), (.int fl)] ∧ Z.Warmed39 zU.vm ∧ zU.heap = h0) (fun _ _ _ _ _ => True) (fun _ zU zo zU' => ∃ zv zL, zo = .returned zv ∧ QS Z pq arr k h0 n0 zv zU'.heap zL ∧ FrameEnd zU zo zU' zL rr_4_4_4_53.cells rr_4_4_4_53.slots) := by
  refine MetFree.of_bodySF (plainFor_of_name pn_com_example_keyed_work_queue_keyedworkqueue_PendingFoundPinLaw) hisR ?_
  intro p e s m args below meth c s₁ Bd hml0 hP hK
  obtain ⟨rfl, hZ, hh⟩ := hP
  have hx := Bd.exec
  have hby := Bd.bytes
  have hml : c.maxLocals = 29 := hml0
  have hown : s.vm.findClass "com/example/keyed_work_queue/keyedworkqueue/PendingFoundPinLaw" = some m.cls := findClass_of_methodNamed Bd.named
  have hnm := (name_of_methodNamed Bd.named Bd.method).1
  have X0 : Stand p l e rr_4_4_4_53 s m #[(.ref pq), (.ref arr), (.long old), (.long x), (.long s'), (.int ids), (.int fl)] below meth c s₁ [] 0 0 := Stand.of_body Bd
  have e0 : s₁.heap = h0 := by rw [← hh, Bd.state]; rfl
  have N0 := Fr.nil n0
  have pre0 : ∀ t, Steps p.tables e below (s₁.setTop (mkF m 0 #[.val (.ref pq), .val (.ref arr), .val (.long old), .second, .val (.long x), .second, .val (.long s'), .second, .val (.int ids), .val (.int fl), .unset, .unset, .unset, .unset, .unset, .unset, .unset, .unset, .unset, .unset, .unset, .unset, .unset, .unset, .unset, .unset, .unset, .unset, .unset] [])) t → Steps p.tables e below (s₁.setTop (entryFrame m #[(.ref pq), (.ref arr), (.long old), (.long x), (.long s'), (.int ids), (.int fl)] 29)) t := fun t k => castTop (ef_3 m pq arr old x s' ids fl) k
  obtain ⟨jr, sn, PA, LJ, VA⟩ := IV
  obtain ⟨jj, hjj⟩ : ∃ z, ((1000 : Int64) + ((ids &&& (3 : Int32)).toInt64)) = z := ⟨_, rfl⟩
  obtain ⟨tt, htt⟩ : ∃ z, ((1000 : Int64) + (((ids >>> ((2 : Int32) &&& 31)) &&& (3 : Int32)).toInt64)) = z := ⟨_, rfl⟩
  obtain ⟨T1, h1, L1, jr1, r1, r2, r3, r4, X1, e1, N1, ⟨PB, LN, VB, O1, K1⟩, st1⟩ := s1_100 pq arr k cb old x s' ids fl fx fs jr sn oj (own_v2 oj) (own_v3 oj) jj tt X0 hx hZ hw hby hml hown e0 Z0 N0 hjj htt g0_pq g0_arr PA O0 SC LC LJ VA hF hJ hT
  have Z1 : n0 ≤ h1.size := Nat.le_trans Z0 K1.1
  have st2 := s2_00 pq arr k old x s' ids fl (1 : Int32) jj tt r1 r2 r3 r4 fx fs (own_v2 oj) (own_v3 oj) X1 hx hZ hw hby hml hown e1 (by decide) (by decide) VB
  obtain ⟨sm, hsm⟩ : ∃ z, own_sm (True) (own_v2 oj) (own_v3 oj) jj = z := ⟨_, rfl⟩
  rw [hsm] at st2
  obtain ⟨T3, h3, L3, s25, s26, s27, s28, X3, e3, N3, ⟨V3, K3⟩, st3⟩ := s3_1 pq arr k old x s' ids fl (1 : Int32) (0 : Int32) (0 : Int32) jj tt r1 r2 r3 r4 fx fs (own_v2 oj) (own_v3 oj) (1 : Int32) jj sm X1 hx hZ hw hby hml hown e1 (by decide) (by decide) Z1 N1 g0_arr VB
  have Z3 : n0 ≤ h3.size := Nat.le_trans Z1 K3.1
  obtain ⟨T4, h4, L4, X4, e4, N4, ⟨V4, K4⟩, st4⟩ := s4_0_t pq arr k old x s' ids fl (1 : Int32) (0 : Int32) (0 : Int32) jj tt r1 r2 r3 r4 _ _ (own_v2 oj) (own_v3 oj) (1 : Int32) jj sm s25 s26 s27 s28 X3 hx hZ hw hby hml hown e3 (by decide) (by decide) Z3 N3 g0_arr V3
  have hq : (own_same oj (some jj) = true) ↔ ¬ (sm = 0) := hsm ▸ own_smT oj jj
  have hNV : (if ¬ (sm = 0) then (fx, fs) else own_raise (fx, fs) (own_cand old none)) = (own_fl oj (own_or (some jj) (some tt)) (fx, fs) (own_cand old none)) := by
    show _ = (if own_same oj (some jj) = true then _ else _)
    by_cases q : own_same oj (some jj) = true
    · rw [if_pos q, if_pos (hq.mp q)]
    · rw [if_neg q, if_neg (fun z => q (hq.mpr z))]
  rw [hNV] at V4
  have V5 : Arv Z h4 arr k .long (4 : Int32) [(.long (own_fl oj (own_or (some jj) (some tt)) (fx, fs) (own_cand old none)).1), (.long (own_fl oj (own_or (some jj) (some tt)) (fx, fs) (own_cand old none)).2), (.long (own_v2 (own_jo oj (some jj) (some tt)))), (.long (own_v3 (own_jo oj (some jj) (some tt))))] (.long (0 : Int64)) := V4
  have LN4 := (LN.keepA K3 VB (ow hw 32 rfl)).keepA K4 V3 (ow hw 32 rfl)
  have ne_pq_arr : pq ≠ arr := own_pe PA.1 VA (ow hw 1 rfl)
  obtain ⟨Epd101, Fapd101, Fbpd101, Fcpd101, Fdpd101⟩ := PB
  have c102 := Fapd101.keep K3 (ninS ne_pq_arr nin0)
  have c103 := c102.keep K4 (ninS ne_pq_arr nin0)
  have c105 := Epd101.keep K3
  have c106 := c105.keep K4
  obtain ⟨cq104, kq104, q104a, q104b, q104c⟩ := isOf hZ e4 c106
  obtain ⟨_, _, ⟨T104, L104, k104, n104⟩, -, X104, ⟨Lc104, hQ104, l104, y104, z104⟩, st104⟩ := X4.virtualBack hx (y := nm_11) (z := nm_11) hown (mvT hZ (ow hw 65 rfl)) (mvT hZ (ow hw 66 rfl)) (notFace_of_selects (args := #[]) (mvT hZ (ow hw 68 rfl))) (mvT hZ (ow hw 68 rfl)) (mvT hZ (ow hw 67 rfl)) (by decide) (backOf (W := 0) (rm11 l Z a0 hw [] pq (own_fl oj (own_or (some jj) (some tt)) (fx, fs) (own_cand old none)).1 h4 n0 (Nat.le_trans (Nat.le_trans (Nat.le_trans Z0 K1.1) K3.1) K4.1) c103) hZ (ow hw 69 rfl) (ow hw 2 rfl) (by decide) (by decide)) q104a q104c (g := (mkF m 300 #[.val (.ref pq), .val (.ref arr), .val (.long old), .second, .val (.long x), .second, .val (.long s'), .second, .val (.int ids), .val (.int fl), .val (.int (1 : Int32)), .val (.int (0 : Int32)), .val (.int (0 : Int32)), .val (.long jj), .second, .val (.long tt), .second, .val r1, .val r2, .val r3, .val r4, .val (.int (1 : Int32)), .val (.long jj), .second, .val (.int sm), s25, s26, s27, s28] [(.ref pq)])) rfl (by rw [hml]; rfl) (Steps.refl _) (argsL := []) (rest := []) (lenOf pd_6 rfl) rfl (by show 2 * 0 + _ ≤ _; exact Nat.le_of_eq rfl) (hb hby d3_300) (fun _ _ => ⟨rfl, e4, (by decide : 2 + 0 ≤ _), (by decide : 2 + 0 ≤ _)⟩)
  dsimp only [Pt.U, Pt.locs, Pt.cells, Pt.slots] at X104 l104 y104 z104 st104 hQ104
  subst l104 y104 z104
  obtain ⟨rfl, N104q, e104⟩ := hQ104
  have N104 := Fr.app N4 N104q
  obtain ⟨clz107, Arz107, qz107, Sz107, Nz107, Hz107, Gz107⟩ := id V5
  have hin108 : ¬ ((0 : Int32) < 0 ∨ clz107.slots.size ≤ ((0 : Int32)).toNatClampNeg) := inb_of Sz107 ⟨by decide, by decide⟩
  have hat108 : clz107.slots[((0 : Int32)).toNatClampNeg]? = some (.long (own_fl oj (own_or (some jj) (some tt)) (fx, fs) (own_cand old none)).1) := Hz107.at hin108 rfl
  have c109 := Fbpd101.keep K3 (ninS ne_pq_arr nin0)
  have c110 := c109.keep K4 (ninS ne_pq_arr nin0)
  obtain ⟨cq111, kq111, q111a, q111b, q111c⟩ := isOf hZ e104 c106
  obtain ⟨_, _, ⟨T111, L111, k111, n111⟩, -, X111, ⟨Lc111, hQ111, l111, y111, z111⟩, st111⟩ := X104.virtualBack hx (y := nm_12) (z := nm_12) hown (mvT hZ (ow hw 70 rfl)) (mvT hZ (ow hw 71 rfl)) (notFace_of_selects (args := #[]) (mvT hZ (ow hw 73 rfl))) (mvT hZ (ow hw 73 rfl)) (mvT hZ (ow hw 72 rfl)) (by decide) (backOf (W := 0) (rm12 l Z a0 hw [] pq (own_fl oj (own_or (some jj) (some tt)) (fx, fs) (own_cand old none)).2 h4 n0 (Nat.le_trans (Nat.le_trans (Nat.le_trans Z0 K1.1) K3.1) K4.1) c110) hZ (ow hw 74 rfl) (ow hw 2 rfl) (by decide) (by decide)) q111a q111c (g := (mkF m 311 #[.val (.ref pq), .val (.ref arr), .val (.long old), .second, .val (.long x), .second, .val (.long s'), .second, .val (.int ids), .val (.int fl), .val (.int (1 : Int32)), .val (.int (0 : Int32)), .val (.int (0 : Int32)), .val (.long jj), .second, .val (.long tt), .second, .val r1, .val r2, .val r3, .val r4, .val (.int (1 : Int32)), .val (.long jj), .second, .val (.int sm), s25, s26, s27, s28] [(.ref pq)])) rfl (by rw [hml]; rfl) (Steps.refl _) (argsL := []) (rest := []) (lenOf pd_6 rfl) rfl (by show 2 * 0 + _ ≤ _; exact Nat.le_of_eq rfl) (hb hby d3_311) (fun _ _ => ⟨rfl, e104, (by decide : 2 + 0 ≤ _), (by decide : 2 + 0 ≤ _)⟩)
  dsimp only [Pt.U, Pt.locs, Pt.cells, Pt.slots] at X111 l111 y111 z111 st111 hQ111
  subst l111 y111 z111
  obtain ⟨rfl, N111q, e111⟩ := hQ111
  have N111 := Fr.app N104 N111q
  obtain ⟨clz112, Arz112, qz112, Sz112, Nz112, Hz112, Gz112⟩ := id V5
  have hin113 : ¬ ((1 : Int32) < 0 ∨ clz112.slots.size ≤ ((1 : Int32)).toNatClampNeg) := inb_of Sz112 ⟨by decide, by decide⟩
  have hat113 : clz112.slots[((1 : Int32)).toNatClampNeg]? = some (.long (own_fl oj (own_or (some jj) (some tt)) (fx, fs) (own_cand old none)).2) := Hz112.at hin113 rfl
  have c114 := Fdpd101.keep K3 (ninS ne_pq_arr nin0)
  have c115 := c114.keep K4 (ninS ne_pq_arr nin0)
  obtain ⟨cq116, kq116, q116a, q116b, q116c⟩ := isOf hZ e111 c106
  obtain ⟨_, _, ⟨T116, L116, k116, n116⟩, -, X116, ⟨Lc116, hQ116, l116, y116, z116⟩, st116⟩ := X111.virtualBack hx (y := nm_13) (z := nm_13) hown (mvT hZ (ow hw 75 rfl)) (mvT hZ (ow hw 76 rfl)) (notFace_of_selects (args := #[]) (mvT hZ (ow hw 78 rfl))) (mvT hZ (ow hw 78 rfl)) (mvT hZ (ow hw 77 rfl)) (by decide) (backOf (W := 0) (rm13_0 l Z a0 hw [] pq h4 n0 (Nat.le_trans (Nat.le_trans (Nat.le_trans Z0 K1.1) K3.1) K4.1) c115) hZ (ow hw 79 rfl) (ow hw 2 rfl) (by decide) (by decide)) q116a q116c (g := (mkF m 322 #[.val (.ref pq), .val (.ref arr), .val (.long old), .second, .val (.long x), .second, .val (.long s'), .second, .val (.int ids), .val (.int fl), .val (.int (1 : Int32)), .val (.int (0 : Int32)), .val (.int (0 : Int32)), .val (.long jj), .second, .val (.long tt), .second, .val r1, .val r2, .val r3, .val r4, .val (.int (1 : Int32)), .val (.long jj), .second, .val (.int sm), s25, s26, s27, s28] [(.ref pq)])) rfl (by rw [hml]; rfl) (Steps.refl _) (argsL := []) (rest := []) (lenOf pd_8 rfl) rfl (by show 2 * 0 + _ ≤ _; exact Nat.le_of_eq rfl) (hb hby d3_322) (fun _ _ => ⟨rfl, e111, (by decide : 2 + 0 ≤ _), (by decide : 2 + 0 ≤ _)⟩)
  dsimp only [Pt.U, Pt.locs, Pt.cells, Pt.slots] at X116 l116 y116 z116 st116 hQ116
  subst l116 y116 z116
  obtain ⟨rfl, N116q, e116⟩ := hQ116
  have N116 := Fr.app N111 N116q
  have kp117 : Keep h0 h4 [pq, arr] := ((((Keep.refl h0 [pq, arr]).trans K1 (allS (Or.inl (List.mem_of_getElem? (i := 0) rfl)) all0)).trans K3 (allS (Or.inl (List.mem_of_getElem? (i := 1) rfl)) all0)).trans K4 (allS (Or.inl (List.mem_of_getElem? (i := 1) rfl)) all0))
  have c118 := Fcpd101.keep K3 (ninS ne_pq_arr nin0)
  have c119 := c118.keep K4 (ninS ne_pq_arr nin0)
  obtain ⟨fsq, hr, hrun, hended, hW, hsame⟩ := X116.leave (v := some (.int (1 : Int32))) (fun h => by rw [Bd.returns] at h; cases h)
  refine ⟨_, _, pre0 _ ?_, hrun, hended, _, _, rfl, ?_, ⟨_, rfl⟩, hW, hsame.mono (by decide) (by decide)⟩
  · show Steps p.tables e below (s₁.setTop (mkF m 0 #[.val (.ref pq), .val (.ref arr), .val (.long old), .second, .val (.long x), .second, .val (.long s'), .second, .val (.int ids), .val (.int fl), .unset, .unset, .unset, .unset, .unset, .unset, .unset, .unset, .unset, .unset, .unset, .unset, .unset, .unset, .unset, .unset, .unset, .unset, .unset] [])) _
    refine st1 _ ?_
    refine st2 _ ?_
    refine st3 _ ?_
    refine st4 _ ?_
    refine XS.aloadN X4.here hx rfl (hb hby d3_299) rfl rfl ?_
    refine st104.trans ?_
    refine XS.aloadN X104.here hx rfl (hb hby d3_303) rfl rfl ?_
    refine XS.iconst X104.here hx rfl (hb hby d3_304) ?_
    refine X104.laload hx (j := (0 : Int32)) (v := (.long (own_fl oj (own_or (some jj) (some tt)) (fx, fs) (own_cand old none)).1)) (by rw [e104]; exact Arz107.1) (State.isArrayOf_alike hZ.alike Arz107.2.1) Arz107.2.2 hin108 hat108 (g := (mkF m 305 #[.val (.ref pq), .val (.ref arr), .val (.long old), .second, .val (.long x), .second, .val (.long s'), .second, .val (.int ids), .val (.int fl), .val (.int (1 : Int32)), .val (.int (0 : Int32)), .val (.int (0 : Int32)), .val (.long jj), .second, .val (.long tt), .second, .val r1, .val r2, .val r3, .val r4, .val (.int (1 : Int32)), .val (.long jj), .second, .val (.int sm), s25, s26, s27, s28] [(.int (0 : Int32)), (.ref arr), (.long (own_fl oj (own_or (some jj) (some tt)) (fx, fs) (own_cand old none)).1)])) rfl rfl (hb hby d3_305) _ ?_
    refine XS.lcmp X104.here hx rfl (hb hby d3_306) rfl ?_
    refine XS.ifNo X104.here hx rfl (hb hby d3_307) rfl ((if0 _ _).trans (teq ((lw_eq _ _).mpr rfl)).2) ?_
    refine XS.aloadN X104.here hx rfl (hb hby d3_310) rfl rfl ?_
    show Steps p.tables e below (T104.setTop (mkF m 311 #[.val (.ref pq), .val (.ref arr), .val (.long old), .second, .val (.long x), .second, .val (.long s'), .second, .val (.int ids), .val (.int fl), .val (.int (1 : Int32)), .val (.int (0 : Int32)), .val (.int (0 : Int32)), .val (.long jj), .second, .val (.long tt), .second, .val r1, .val r2, .val r3, .val r4, .val (.int (1 : Int32)), .val (.long jj), .second, .val (.int sm), s25, s26, s27, s28] [(.ref pq)])) _
    refine st111.trans ?_
    refine XS.aloadN X111.here hx rfl (hb hby d3_314) rfl rfl ?_
    refine XS.iconst X111.here hx rfl (hb hby d3_315) ?_
    refine X111.laload hx (j := (1 : Int32)) (v := (.long (own_fl oj (own_or (some jj) (some tt)) (fx, fs) (own_cand old none)).2)) (by rw [e111]; exact Arz112.1) (State.isArrayOf_alike hZ.alike Arz112.2.1) Arz112.2.2 hin113 hat113 (g := (mkF m 316 #[.val (.ref pq), .val (.ref arr), .val (.long old), .second, .val (.long x), .second, .val (.long s'), .second, .val (.int ids), .val (.int fl), .val (.int (1 : Int32)), .val (.int (0 : Int32)), .val (.int (0 : Int32)), .val (.long jj), .second, .val (.long tt), .second, .val r1, .val r2, .val r3, .val r4, .val (.int (1 : Int32)), .val (.long jj), .second, .val (.int sm), s25, s26, s27, s28] [(.int (1 : Int32)), (.ref arr), (.long (own_fl oj (own_or (some jj) (some tt)) (fx, fs) (own_cand old none)).2)])) rfl rfl (hb hby d3_316) _ ?_
    refine XS.lcmp X111.here hx rfl (hb hby d3_317) rfl ?_
    refine XS.ifNo X111.here hx rfl (hb hby d3_318) rfl ((if0 _ _).trans (teq ((lw_eq _ _).mpr rfl)).2) ?_
    refine XS.aloadN X111.here hx rfl (hb hby d3_321) rfl rfl ?_
    refine st116.trans ?_
    refine XS.iload X116.here hx rfl (hb hby d3_325) rfl ?_
    show Steps p.tables e below (T116.setTop (mkF m 327 #[.val (.ref pq), .val (.ref arr), .val (.long old), .second, .val (.long x), .second, .val (.long s'), .second, .val (.int ids), .val (.int fl), .val (.int (1 : Int32)), .val (.int (0 : Int32)), .val (.int (0 : Int32)), .val (.long jj), .second, .val (.long tt), .second, .val r1, .val r2, .val r3, .val r4, .val (.int (1 : Int32)), .val (.long jj), .second, .val (.int sm), s25, s26, s27, s28] [(.int (1 : Int32)), (.int (0 : Int32))])) _
    refine XS.ifYes X116.here hx rfl (pc0 := 327) (pc' := 334) rfl (hb hby d3_327) rfl ((if0 _ _).trans (feq ((by decide) : ¬ ((1 : Int32) = (0 : Int32)))).2) (by decide) (by decide) ?_
    refine XS.iconst X116.here hx rfl (hb hby d3_334) ?_
    refine XS.icmpNo X116.here hx rfl (hb hby d3_335) rfl (teq (rfl : (0 : Int32) = (0 : Int32))).2 ?_
    refine XS.iconst X116.here hx rfl (hb hby d3_338) ?_
    refine XS.goto X116.here hx rfl (pc0 := 339) (pc' := 343) rfl (hb hby d3_339) (by decide) (by decide) ?_
    show Steps p.tables e below (T116.setTop (mkF m 343 #[.val (.ref pq), .val (.ref arr), .val (.long old), .second, .val (.long x), .second, .val (.long s'), .second, .val (.int ids), .val (.int fl), .val (.int (1 : Int32)), .val (.int (0 : Int32)), .val (.int (0 : Int32)), .val (.long jj), .second, .val (.long tt), .second, .val r1, .val r2, .val r3, .val r4, .val (.int (1 : Int32)), .val (.long jj), .second, .val (.int sm), s25, s26, s27, s28] [(.int (1 : Int32))])) _
    exact retN X116 hx (t := .boolean) Bd.returns (by simp) (hb hby d3_343) hr
  · show QS Z pq arr k h0 n0 _ T116.heap _
    rw [e116]
    exact ⟨rfl, N116, kp117, _, _, _, jr1, _, ⟨c106, c103, c110, c119, c115⟩, LN4, V5⟩
set_option maxRecDepth 65536 in
set_option maxHeartbeats 40000000 in
theorem rm3_101 (l : Launch) (Z : State) (a0 : Array Value) (hw : ∀ d ∈ tables_1, d.before a0 Z = true) (ws : List Jvm.Cond) (pq : Addr) (arr : Addr) (k : ClassId) (cb : Addr) (old : Int64) (x : Int64) (s' : Int64) (ids : Int32) (fl : Int32) (fx : Int64) (fs : Int64) (oj : Option Int64) (h0 : Heap) (n0 : Nat) (Z0 : n0 ≤ h0.size) (g0_pq : n0 ≤ pq) (g0_arr : n0 ≤ arr) (O0 : Old Z n0 h0) (SC : Sta Z Z.heap "java/lang/Long$LongCache" "cache" "[Ljava/lang/Long;" (.ref cb)) (LC : LCache Z cb) (IV : Inv Z h0 pq arr k fx fs oj) (hF : ¬ ((fl &&& (1 : Int32)) = (0 : Int32))) (hJ : (fl &&& (2 : Int32)) = (0 : Int32)) (hT : ¬ ((fl &&& (4 : Int32)) = (0 : Int32))) :
    MetFree l nm_3 (head1 (Jvm.Cond.code nm_3 method_4_code 29 (some .boolean) :: ws) rr_4_4_4_53) (fun aa zU => aa = #[(.ref pq), (.ref arr), (.long old), (.long x), (.long s'), (.int ids), (.int fl)] ∧ Z.Warmed39 zU.vm ∧ zU.heap = h0) (fun _ _ _ _ _ => True) (fun _ zU zo zU' => ∃ zv zL, zo = .returned zv ∧ QS Z pq arr k h0 n0 zv zU'.heap zL ∧ FrameEnd zU zo zU' zL rr_4_4_4_53.cells rr_4_4_4_53.slots) := by
  refine MetFree.of_bodySF (plainFor_of_name pn_com_example_keyed_work_queue_keyedworkqueue_PendingFoundPinLaw) hisR ?_
  intro p e s m args below meth c s₁ Bd hml0 hP hK
  obtain ⟨rfl, hZ, hh⟩ := hP
  have hx := Bd.exec
  have hby := Bd.bytes
  have hml : c.maxLocals = 29 := hml0
  have hown : s.vm.findClass "com/example/keyed_work_queue/keyedworkqueue/PendingFoundPinLaw" = some m.cls := findClass_of_methodNamed Bd.named
  have hnm := (name_of_methodNamed Bd.named Bd.method).1
  have X0 : Stand p l e rr_4_4_4_53 s m #[(.ref pq), (.ref arr), (.long old), (.long x), (.long s'), (.int ids), (.int fl)] below meth c s₁ [] 0 0 := Stand.of_body Bd
  have e0 : s₁.heap = h0 := by rw [← hh, Bd.state]; rfl
  have N0 := Fr.nil n0
  have pre0 : ∀ t, Steps p.tables e below (s₁.setTop (mkF m 0 #[.val (.ref pq), .val (.ref arr), .val (.long old), .second, .val (.long x), .second, .val (.long s'), .second, .val (.int ids), .val (.int fl), .unset, .unset, .unset, .unset, .unset, .unset, .unset, .unset, .unset, .unset, .unset, .unset, .unset, .unset, .unset, .unset, .unset, .unset, .unset] [])) t → Steps p.tables e below (s₁.setTop (entryFrame m #[(.ref pq), (.ref arr), (.long old), (.long x), (.long s'), (.int ids), (.int fl)] 29)) t := fun t k => castTop (ef_3 m pq arr old x s' ids fl) k
  obtain ⟨jr, sn, PA, LJ, VA⟩ := IV
  obtain ⟨jj, hjj⟩ : ∃ z, ((1000 : Int64) + ((ids &&& (3 : Int32)).toInt64)) = z := ⟨_, rfl⟩
  obtain ⟨tt, htt⟩ : ∃ z, ((1000 : Int64) + (((ids >>> ((2 : Int32) &&& 31)) &&& (3 : Int32)).toInt64)) = z := ⟨_, rfl⟩
  obtain ⟨T1, h1, L1, jr1, r1, r2, r3, r4, X1, e1, N1, ⟨PB, LN, VB, O1, K1⟩, st1⟩ := s1_101 pq arr k cb old x s' ids fl fx fs jr sn oj (own_v2 oj) (own_v3 oj) jj tt X0 hx hZ hw hby hml hown e0 Z0 N0 hjj htt g0_pq g0_arr PA O0 SC LC LJ VA hF hJ hT
  have Z1 : n0 ≤ h1.size := Nat.le_trans Z0 K1.1
  have st2 := s2_01 pq arr k old x s' ids fl (1 : Int32) jj tt r1 r2 r3 r4 fx fs (own_v2 oj) (own_v3 oj) X1 hx hZ hw hby hml hown e1 (by decide) (by decide) VB
  obtain ⟨sm, hsm⟩ : ∃ z, own_sm (True) (own_v2 oj) (own_v3 oj) jj = z := ⟨_, rfl⟩
  rw [hsm] at st2
  obtain ⟨T3, h3, L3, s25, s26, s27, s28, X3, e3, N3, ⟨V3, K3⟩, st3⟩ := s3_1 pq arr k old x s' ids fl (1 : Int32) (0 : Int32) (1 : Int32) jj tt r1 r2 r3 r4 fx fs (own_v2 oj) (own_v3 oj) (1 : Int32) jj sm X1 hx hZ hw hby hml hown e1 (by decide) (by decide) Z1 N1 g0_arr VB
  have Z3 : n0 ≤ h3.size := Nat.le_trans Z1 K3.1
  obtain ⟨T4, h4, L4, X4, e4, N4, ⟨V4, K4⟩, st4⟩ := s4_0_t pq arr k old x s' ids fl (1 : Int32) (0 : Int32) (1 : Int32) jj tt r1 r2 r3 r4 _ _ (own_v2 oj) (own_v3 oj) (1 : Int32) jj sm s25 s26 s27 s28 X3 hx hZ hw hby hml hown e3 (by decide) (by decide) Z3 N3 g0_arr V3
  have hq : (own_same oj (some jj) = true) ↔ ¬ (sm = 0) := hsm ▸ own_smT oj jj
  have hNV : (if ¬ (sm = 0) then (fx, fs) else own_raise (fx, fs) (own_cand old none)) = (own_fl oj (own_or (some jj) none) (fx, fs) (own_cand old none)) := by
    show _ = (if own_same oj (some jj) = true then _ else _)
    by_cases q : own_same oj (some jj) = true
    · rw [if_pos q, if_pos (hq.mp q)]
    · rw [if_neg q, if_neg (fun z => q (hq.mpr z))]
  rw [hNV] at V4
  have V5 : Arv Z h4 arr k .long (4 : Int32) [(.long (own_fl oj (own_or (some jj) none) (fx, fs) (own_cand old none)).1), (.long (own_fl oj (own_or (some jj) none) (fx, fs) (own_cand old none)).2), (.long (own_v2 (own_jo oj (some jj) none))), (.long (own_v3 (own_jo oj (some jj) none)))] (.long (0 : Int64)) := V4
  have LN4 := (LN.keepA K3 VB (ow hw 32 rfl)).keepA K4 V3 (ow hw 32 rfl)
  have ne_pq_arr : pq ≠ arr := own_pe PA.1 VA (ow hw 1 rfl)
  obtain ⟨Epd101, Fapd101, Fbpd101, Fcpd101, Fdpd101⟩ := PB
  have c102 := Fapd101.keep K3 (ninS ne_pq_arr nin0)
  have c103 := c102.keep K4 (ninS ne_pq_arr nin0)
  have c105 := Epd101.keep K3
  have c106 := c105.keep K4
  obtain ⟨cq104, kq104, q104a, q104b, q104c⟩ := isOf hZ e4 c106
  obtain ⟨_, _, ⟨T104, L104, k104, n104⟩, -, X104, ⟨Lc104, hQ104, l104, y104, z104⟩, st104⟩ := X4.virtualBack hx (y := nm_11) (z := nm_11) hown (mvT hZ (ow hw 65 rfl)) (mvT hZ (ow hw 66 rfl)) (notFace_of_selects (args := #[]) (mvT hZ (ow hw 68 rfl))) (mvT hZ (ow hw 68 rfl)) (mvT hZ (ow hw 67 rfl)) (by decide) (backOf (W := 0) (rm11 l Z a0 hw [] pq (own_fl oj (own_or (some jj) none) (fx, fs) (own_cand old none)).1 h4 n0 (Nat.le_trans (Nat.le_trans (Nat.le_trans Z0 K1.1) K3.1) K4.1) c103) hZ (ow hw 69 rfl) (ow hw 2 rfl) (by decide) (by decide)) q104a q104c (g := (mkF m 300 #[.val (.ref pq), .val (.ref arr), .val (.long old), .second, .val (.long x), .second, .val (.long s'), .second, .val (.int ids), .val (.int fl), .val (.int (1 : Int32)), .val (.int (0 : Int32)), .val (.int (1 : Int32)), .val (.long jj), .second, .val (.long tt), .second, .val r1, .val r2, .val r3, .val r4, .val (.int (1 : Int32)), .val (.long jj), .second, .val (.int sm), s25, s26, s27, s28] [(.ref pq)])) rfl (by rw [hml]; rfl) (Steps.refl _) (argsL := []) (rest := []) (lenOf pd_6 rfl) rfl (by show 2 * 0 + _ ≤ _; exact Nat.le_of_eq rfl) (hb hby d3_300) (fun _ _ => ⟨rfl, e4, (by decide : 1 + 0 ≤ _), (by decide : 1 + 0 ≤ _)⟩)
  dsimp only [Pt.U, Pt.locs, Pt.cells, Pt.slots] at X104 l104 y104 z104 st104 hQ104
  subst l104 y104 z104
  obtain ⟨rfl, N104q, e104⟩ := hQ104
  have N104 := Fr.app N4 N104q
  obtain ⟨clz107, Arz107, qz107, Sz107, Nz107, Hz107, Gz107⟩ := id V5
  have hin108 : ¬ ((0 : Int32) < 0 ∨ clz107.slots.size ≤ ((0 : Int32)).toNatClampNeg) := inb_of Sz107 ⟨by decide, by decide⟩
  have hat108 : clz107.slots[((0 : Int32)).toNatClampNeg]? = some (.long (own_fl oj (own_or (some jj) none) (fx, fs) (own_cand old none)).1) := Hz107.at hin108 rfl
  have c109 := Fbpd101.keep K3 (ninS ne_pq_arr nin0)
  have c110 := c109.keep K4 (ninS ne_pq_arr nin0)
  obtain ⟨cq111, kq111, q111a, q111b, q111c⟩ := isOf hZ e104 c106
  obtain ⟨_, _, ⟨T111, L111, k111, n111⟩, -, X111, ⟨Lc111, hQ111, l111, y111, z111⟩, st111⟩ := X104.virtualBack hx (y := nm_12) (z := nm_12) hown (mvT hZ (ow hw 70 rfl)) (mvT hZ (ow hw 71 rfl)) (notFace_of_selects (args := #[]) (mvT hZ (ow hw 73 rfl))) (mvT hZ (ow hw 73 rfl)) (mvT hZ (ow hw 72 rfl)) (by decide) (backOf (W := 0) (rm12 l Z a0 hw [] pq (own_fl oj (own_or (some jj) none) (fx, fs) (own_cand old none)).2 h4 n0 (Nat.le_trans (Nat.le_trans (Nat.le_trans Z0 K1.1) K3.1) K4.1) c110) hZ (ow hw 74 rfl) (ow hw 2 rfl) (by decide) (by decide)) q111a q111c (g := (mkF m 311 #[.val (.ref pq), .val (.ref arr), .val (.long old), .second, .val (.long x), .second, .val (.long s'), .second, .val (.int ids), .val (.int fl), .val (.int (1 : Int32)), .val (.int (0 : Int32)), .val (.int (1 : Int32)), .val (.long jj), .second, .val (.long tt), .second, .val r1, .val r2, .val r3, .val r4, .val (.int (1 : Int32)), .val (.long jj), .second, .val (.int sm), s25, s26, s27, s28] [(.ref pq)])) rfl (by rw [hml]; rfl) (Steps.refl _) (argsL := []) (rest := []) (lenOf pd_6 rfl) rfl (by show 2 * 0 + _ ≤ _; exact Nat.le_of_eq rfl) (hb hby d3_311) (fun _ _ => ⟨rfl, e104, (by decide : 1 + 0 ≤ _), (by decide : 1 + 0 ≤ _)⟩)
  dsimp only [Pt.U, Pt.locs, Pt.cells, Pt.slots] at X111 l111 y111 z111 st111 hQ111
  subst l111 y111 z111
  obtain ⟨rfl, N111q, e111⟩ := hQ111
  have N111 := Fr.app N104 N111q
  obtain ⟨clz112, Arz112, qz112, Sz112, Nz112, Hz112, Gz112⟩ := id V5
  have hin113 : ¬ ((1 : Int32) < 0 ∨ clz112.slots.size ≤ ((1 : Int32)).toNatClampNeg) := inb_of Sz112 ⟨by decide, by decide⟩
  have hat113 : clz112.slots[((1 : Int32)).toNatClampNeg]? = some (.long (own_fl oj (own_or (some jj) none) (fx, fs) (own_cand old none)).2) := Hz112.at hin113 rfl
  have c114 := Fdpd101.keep K3 (ninS ne_pq_arr nin0)
  have c115 := c114.keep K4 (ninS ne_pq_arr nin0)
  obtain ⟨cq116, kq116, q116a, q116b, q116c⟩ := isOf hZ e111 c106
  obtain ⟨_, _, ⟨T116, L116, k116, n116⟩, -, X116, ⟨Lc116, hQ116, l116, y116, z116⟩, st116⟩ := X111.virtualBack hx (y := nm_13) (z := nm_13) hown (mvT hZ (ow hw 75 rfl)) (mvT hZ (ow hw 76 rfl)) (notFace_of_selects (args := #[]) (mvT hZ (ow hw 78 rfl))) (mvT hZ (ow hw 78 rfl)) (mvT hZ (ow hw 77 rfl)) (by decide) (backOf (W := 0) (rm13_0 l Z a0 hw [] pq h4 n0 (Nat.le_trans (Nat.le_trans (Nat.le_trans Z0 K1.1) K3.1) K4.1) c115) hZ (ow hw 79 rfl) (ow hw 2 rfl) (by decide) (by decide)) q116a q116c (g := (mkF m 322 #[.val (.ref pq), .val (.ref arr), .val (.long old), .second, .val (.long x), .second, .val (.long s'), .second, .val (.int ids), .val (.int fl), .val (.int (1 : Int32)), .val (.int (0 : Int32)), .val (.int (1 : Int32)), .val (.long jj), .second, .val (.long tt), .second, .val r1, .val r2, .val r3, .val r4, .val (.int (1 : Int32)), .val (.long jj), .second, .val (.int sm), s25, s26, s27, s28] [(.ref pq)])) rfl (by rw [hml]; rfl) (Steps.refl _) (argsL := []) (rest := []) (lenOf pd_8 rfl) rfl (by show 2 * 0 + _ ≤ _; exact Nat.le_of_eq rfl) (hb hby d3_322) (fun _ _ => ⟨rfl, e111, (by decide : 1 + 0 ≤ _), (by decide : 1 + 0 ≤ _)⟩)
  dsimp only [Pt.U, Pt.locs, Pt.cells, Pt.slots] at X116 l116 y116 z116 st116 hQ116
  subst l116 y116 z116
  obtain ⟨rfl, N116q, e116⟩ := hQ116
  have N116 := Fr.app N111 N116q
  have kp117 : Keep h0 h4 [pq, arr] := ((((Keep.refl h0 [pq, arr]).trans K1 (allS (Or.inl (List.mem_of_getElem? (i := 0) rfl)) all0)).trans K3 (allS (Or.inl (List.mem_of_getElem? (i := 1) rfl)) all0)).trans K4 (allS (Or.inl (List.mem_of_getElem? (i := 1) rfl)) all0))
  have c118 := Fcpd101.keep K3 (ninS ne_pq_arr nin0)
  have c119 := c118.keep K4 (ninS ne_pq_arr nin0)
  obtain ⟨fsq, hr, hrun, hended, hW, hsame⟩ := X116.leave (v := some (.int (1 : Int32))) (fun h => by rw [Bd.returns] at h; cases h)
  refine ⟨_, _, pre0 _ ?_, hrun, hended, _, _, rfl, ?_, ⟨_, rfl⟩, hW, hsame.mono (by decide) (by decide)⟩
  · show Steps p.tables e below (s₁.setTop (mkF m 0 #[.val (.ref pq), .val (.ref arr), .val (.long old), .second, .val (.long x), .second, .val (.long s'), .second, .val (.int ids), .val (.int fl), .unset, .unset, .unset, .unset, .unset, .unset, .unset, .unset, .unset, .unset, .unset, .unset, .unset, .unset, .unset, .unset, .unset, .unset, .unset] [])) _
    refine st1 _ ?_
    refine st2 _ ?_
    refine st3 _ ?_
    refine st4 _ ?_
    refine XS.aloadN X4.here hx rfl (hb hby d3_299) rfl rfl ?_
    refine st104.trans ?_
    refine XS.aloadN X104.here hx rfl (hb hby d3_303) rfl rfl ?_
    refine XS.iconst X104.here hx rfl (hb hby d3_304) ?_
    refine X104.laload hx (j := (0 : Int32)) (v := (.long (own_fl oj (own_or (some jj) none) (fx, fs) (own_cand old none)).1)) (by rw [e104]; exact Arz107.1) (State.isArrayOf_alike hZ.alike Arz107.2.1) Arz107.2.2 hin108 hat108 (g := (mkF m 305 #[.val (.ref pq), .val (.ref arr), .val (.long old), .second, .val (.long x), .second, .val (.long s'), .second, .val (.int ids), .val (.int fl), .val (.int (1 : Int32)), .val (.int (0 : Int32)), .val (.int (1 : Int32)), .val (.long jj), .second, .val (.long tt), .second, .val r1, .val r2, .val r3, .val r4, .val (.int (1 : Int32)), .val (.long jj), .second, .val (.int sm), s25, s26, s27, s28] [(.int (0 : Int32)), (.ref arr), (.long (own_fl oj (own_or (some jj) none) (fx, fs) (own_cand old none)).1)])) rfl rfl (hb hby d3_305) _ ?_
    refine XS.lcmp X104.here hx rfl (hb hby d3_306) rfl ?_
    refine XS.ifNo X104.here hx rfl (hb hby d3_307) rfl ((if0 _ _).trans (teq ((lw_eq _ _).mpr rfl)).2) ?_
    refine XS.aloadN X104.here hx rfl (hb hby d3_310) rfl rfl ?_
    show Steps p.tables e below (T104.setTop (mkF m 311 #[.val (.ref pq), .val (.ref arr), .val (.long old), .second, .val (.long x), .second, .val (.long s'), .second, .val (.int ids), .val (.int fl), .val (.int (1 : Int32)), .val (.int (0 : Int32)), .val (.int (1 : Int32)), .val (.long jj), .second, .val (.long tt), .second, .val r1, .val r2, .val r3, .val r4, .val (.int (1 : Int32)), .val (.long jj), .second, .val (.int sm), s25, s26, s27, s28] [(.ref pq)])) _
    refine st111.trans ?_
    refine XS.aloadN X111.here hx rfl (hb hby d3_314) rfl rfl ?_
    refine XS.iconst X111.here hx rfl (hb hby d3_315) ?_
    refine X111.laload hx (j := (1 : Int32)) (v := (.long (own_fl oj (own_or (some jj) none) (fx, fs) (own_cand old none)).2)) (by rw [e111]; exact Arz112.1) (State.isArrayOf_alike hZ.alike Arz112.2.1) Arz112.2.2 hin113 hat113 (g := (mkF m 316 #[.val (.ref pq), .val (.ref arr), .val (.long old), .second, .val (.long x), .second, .val (.long s'), .second, .val (.int ids), .val (.int fl), .val (.int (1 : Int32)), .val (.int (0 : Int32)), .val (.int (1 : Int32)), .val (.long jj), .second, .val (.long tt), .second, .val r1, .val r2, .val r3, .val r4, .val (.int (1 : Int32)), .val (.long jj), .second, .val (.int sm), s25, s26, s27, s28] [(.int (1 : Int32)), (.ref arr), (.long (own_fl oj (own_or (some jj) none) (fx, fs) (own_cand old none)).2)])) rfl rfl (hb hby d3_316) _ ?_
    refine XS.lcmp X111.here hx rfl (hb hby d3_317) rfl ?_
    refine XS.ifNo X111.here hx rfl (hb hby d3_318) rfl ((if0 _ _).trans (teq ((lw_eq _ _).mpr rfl)).2) ?_
    refine XS.aloadN X111.here hx rfl (hb hby d3_321) rfl rfl ?_
    refine st116.trans ?_
    refine XS.iload X116.here hx rfl (hb hby d3_325) rfl ?_
    show Steps p.tables e below (T116.setTop (mkF m 327 #[.val (.ref pq), .val (.ref arr), .val (.long old), .second, .val (.long x), .second, .val (.long s'), .second, .val (.int ids), .val (.int fl), .val (.int (1 : Int32)), .val (.int (0 : Int32)), .val (.int (1 : Int32)), .val (.long jj), .second, .val (.long tt), .second, .val r1, .val r2, .val r3, .val r4, .val (.int (1 : Int32)), .val (.long jj), .second, .val (.int sm), s25, s26, s27, s28] [(.int (1 : Int32)), (.int (0 : Int32))])) _
    refine XS.ifYes X116.here hx rfl (pc0 := 327) (pc' := 334) rfl (hb hby d3_327) rfl ((if0 _ _).trans (feq ((by decide) : ¬ ((1 : Int32) = (0 : Int32)))).2) (by decide) (by decide) ?_
    refine XS.iconst X116.here hx rfl (hb hby d3_334) ?_
    refine XS.icmpNo X116.here hx rfl (hb hby d3_335) rfl (teq (rfl : (0 : Int32) = (0 : Int32))).2 ?_
    refine XS.iconst X116.here hx rfl (hb hby d3_338) ?_
    refine XS.goto X116.here hx rfl (pc0 := 339) (pc' := 343) rfl (hb hby d3_339) (by decide) (by decide) ?_
    show Steps p.tables e below (T116.setTop (mkF m 343 #[.val (.ref pq), .val (.ref arr), .val (.long old), .second, .val (.long x), .second, .val (.long s'), .second, .val (.int ids), .val (.int fl), .val (.int (1 : Int32)), .val (.int (0 : Int32)), .val (.int (1 : Int32)), .val (.long jj), .second, .val (.long tt), .second, .val r1, .val r2, .val r3, .val r4, .val (.int (1 : Int32)), .val (.long jj), .second, .val (.int sm), s25, s26, s27, s28] [(.int (1 : Int32))])) _
    exact retN X116 hx (t := .boolean) Bd.returns (by simp) (hb hby d3_343) hr
  · show QS Z pq arr k h0 n0 _ T116.heap _
    rw [e116]
    exact ⟨rfl, N116, kp117, _, _, _, jr1, _, ⟨c106, c103, c110, c119, c115⟩, LN4, V5⟩
set_option maxRecDepth 65536 in
set_option maxHeartbeats 40000000 in
theorem rm3_110 (l : Launch) (Z : State) (a0 : Array Value) (hw : ∀ d ∈ tables_1, d.before a0 Z = true) (ws : List Jvm.Cond) (pq : Addr) (arr : Addr) (k : ClassId) (cb : Addr) (old : Int64) (x : Int64) (s' : Int64) (ids : Int32) (fl : Int32) (fx : Int64) (fs : Int64) (oj : Option Int64) (h0 : Heap) (n0 : Nat) (Z0 : n0 ≤ h0.size) (g0_pq : n0 ≤ pq) (g0_arr : n0 ≤ arr) (O0 : Old Z n0 h0) (SC : Sta Z Z.heap "java/lang/Long$LongCache" "cache" "[Ljava/lang/Long;" (.ref cb)) (LC : LCache Z cb) (IV : Inv Z h0 pq arr k fx fs oj) (hF : ¬ ((fl &&& (1 : Int32)) = (0 : Int32))) (hJ : ¬ ((fl &&& (2 : Int32)) = (0 : Int32))) (hT : (fl &&& (4 : Int32)) = (0 : Int32)) :
    MetFree l nm_3 (head1 (Jvm.Cond.code nm_3 method_4_code 29 (some .boolean) :: ws) rr_4_4_4_53) (fun aa zU => aa = #[(.ref pq), (.ref arr), (.long old), (.long x), (.long s'), (.int ids), (.int fl)] ∧ Z.Warmed39 zU.vm ∧ zU.heap = h0) (fun _ _ _ _ _ => True) (fun _ zU zo zU' => ∃ zv zL, zo = .returned zv ∧ QS Z pq arr k h0 n0 zv zU'.heap zL ∧ FrameEnd zU zo zU' zL rr_4_4_4_53.cells rr_4_4_4_53.slots) := by
  refine MetFree.of_bodySF (plainFor_of_name pn_com_example_keyed_work_queue_keyedworkqueue_PendingFoundPinLaw) hisR ?_
  intro p e s m args below meth c s₁ Bd hml0 hP hK
  obtain ⟨rfl, hZ, hh⟩ := hP
  have hx := Bd.exec
  have hby := Bd.bytes
  have hml : c.maxLocals = 29 := hml0
  have hown : s.vm.findClass "com/example/keyed_work_queue/keyedworkqueue/PendingFoundPinLaw" = some m.cls := findClass_of_methodNamed Bd.named
  have hnm := (name_of_methodNamed Bd.named Bd.method).1
  have X0 : Stand p l e rr_4_4_4_53 s m #[(.ref pq), (.ref arr), (.long old), (.long x), (.long s'), (.int ids), (.int fl)] below meth c s₁ [] 0 0 := Stand.of_body Bd
  have e0 : s₁.heap = h0 := by rw [← hh, Bd.state]; rfl
  have N0 := Fr.nil n0
  have pre0 : ∀ t, Steps p.tables e below (s₁.setTop (mkF m 0 #[.val (.ref pq), .val (.ref arr), .val (.long old), .second, .val (.long x), .second, .val (.long s'), .second, .val (.int ids), .val (.int fl), .unset, .unset, .unset, .unset, .unset, .unset, .unset, .unset, .unset, .unset, .unset, .unset, .unset, .unset, .unset, .unset, .unset, .unset, .unset] [])) t → Steps p.tables e below (s₁.setTop (entryFrame m #[(.ref pq), (.ref arr), (.long old), (.long x), (.long s'), (.int ids), (.int fl)] 29)) t := fun t k => castTop (ef_3 m pq arr old x s' ids fl) k
  obtain ⟨jr, sn, PA, LJ, VA⟩ := IV
  obtain ⟨jj, hjj⟩ : ∃ z, ((1000 : Int64) + ((ids &&& (3 : Int32)).toInt64)) = z := ⟨_, rfl⟩
  obtain ⟨tt, htt⟩ : ∃ z, ((1000 : Int64) + (((ids >>> ((2 : Int32) &&& 31)) &&& (3 : Int32)).toInt64)) = z := ⟨_, rfl⟩
  obtain ⟨T1, h1, L1, jr1, r1, r2, r3, r4, X1, e1, N1, ⟨PB, LN, VB, O1, K1⟩, st1⟩ := s1_110 pq arr k cb old x s' ids fl fx fs jr sn oj (own_v2 oj) (own_v3 oj) jj tt X0 hx hZ hw hby hml hown e0 Z0 N0 hjj htt g0_pq g0_arr PA O0 SC LC LJ VA hF hJ hT
  have Z1 : n0 ≤ h1.size := Nat.le_trans Z0 K1.1
  have st2 := s2_10 pq arr k old x s' ids fl (1 : Int32) jj tt r1 r2 r3 r4 fx fs (own_v2 oj) (own_v3 oj) X1 hx hZ hw hby hml hown e1 (by decide) (by decide) VB
  obtain ⟨sm, hsm⟩ : ∃ z, own_sm (True) (own_v2 oj) (own_v3 oj) tt = z := ⟨_, rfl⟩
  rw [hsm] at st2
  obtain ⟨T3, h3, L3, s25, s26, s27, s28, X3, e3, N3, ⟨V3, K3⟩, st3⟩ := s3_1 pq arr k old x s' ids fl (1 : Int32) (1 : Int32) (0 : Int32) jj tt r1 r2 r3 r4 fx fs (own_v2 oj) (own_v3 oj) (1 : Int32) tt sm X1 hx hZ hw hby hml hown e1 (by decide) (by decide) Z1 N1 g0_arr VB
  have Z3 : n0 ≤ h3.size := Nat.le_trans Z1 K3.1
  obtain ⟨T4, h4, L4, X4, e4, N4, ⟨V4, K4⟩, st4⟩ := s4_1 pq arr k old x s' ids fl (1 : Int32) (1 : Int32) (0 : Int32) jj tt r1 r2 r3 r4 _ _ (own_v2 oj) (own_v3 oj) (1 : Int32) tt sm s25 s26 s27 s28 X3 hx hZ hw hby hml hown e3 (by decide) (by decide) Z3 N3 g0_arr V3
  have hq : (own_same oj (some tt) = true) ↔ ¬ (sm = 0) := hsm ▸ own_smT oj tt
  have hNV : (if ¬ (sm = 0) then (fx, fs) else own_raise (fx, fs) (own_cand old none)) = (own_fl oj (own_or none (some tt)) (fx, fs) (own_cand old none)) := by
    show _ = (if own_same oj (some tt) = true then _ else _)
    by_cases q : own_same oj (some tt) = true
    · rw [if_pos q, if_pos (hq.mp q)]
    · rw [if_neg q, if_neg (fun z => q (hq.mpr z))]
  have hJ2 : own_v2 (own_jo oj none (some tt)) = (if ¬ (sm = 0) then ((1 : Int64), tt) else ((0 : Int64), (0 : Int64))).1 ∧ own_v3 (own_jo oj none (some tt)) = (if ¬ (sm = 0) then ((1 : Int64), tt) else ((0 : Int64), (0 : Int64))).2 := by
    show own_v2 (if own_same oj (some tt) = true then some tt else none) = _ ∧ own_v3 (if own_same oj (some tt) = true then some tt else none) = _
    by_cases q : own_same oj (some tt) = true
    · rw [if_pos q, if_pos (hq.mp q)]; exact ⟨rfl, rfl⟩
    · rw [if_neg q, if_neg (fun z => q (hq.mpr z))]; exact ⟨rfl, rfl⟩
  rw [hNV, ← hJ2.1, ← hJ2.2] at V4
  have V5 : Arv Z h4 arr k .long (4 : Int32) [(.long (own_fl oj (own_or none (some tt)) (fx, fs) (own_cand old none)).1), (.long (own_fl oj (own_or none (some tt)) (fx, fs) (own_cand old none)).2), (.long (own_v2 (own_jo oj none (some tt)))), (.long (own_v3 (own_jo oj none (some tt))))] (.long (0 : Int64)) := V4
  have LN4 := (LN.keepA K3 VB (ow hw 32 rfl)).keepA K4 V3 (ow hw 32 rfl)
  have ne_pq_arr : pq ≠ arr := own_pe PA.1 VA (ow hw 1 rfl)
  obtain ⟨Epd101, Fapd101, Fbpd101, Fcpd101, Fdpd101⟩ := PB
  have c102 := Fapd101.keep K3 (ninS ne_pq_arr nin0)
  have c103 := c102.keep K4 (ninS ne_pq_arr nin0)
  have c105 := Epd101.keep K3
  have c106 := c105.keep K4
  obtain ⟨cq104, kq104, q104a, q104b, q104c⟩ := isOf hZ e4 c106
  obtain ⟨_, _, ⟨T104, L104, k104, n104⟩, -, X104, ⟨Lc104, hQ104, l104, y104, z104⟩, st104⟩ := X4.virtualBack hx (y := nm_11) (z := nm_11) hown (mvT hZ (ow hw 65 rfl)) (mvT hZ (ow hw 66 rfl)) (notFace_of_selects (args := #[]) (mvT hZ (ow hw 68 rfl))) (mvT hZ (ow hw 68 rfl)) (mvT hZ (ow hw 67 rfl)) (by decide) (backOf (W := 0) (rm11 l Z a0 hw [] pq (own_fl oj (own_or none (some tt)) (fx, fs) (own_cand old none)).1 h4 n0 (Nat.le_trans (Nat.le_trans (Nat.le_trans Z0 K1.1) K3.1) K4.1) c103) hZ (ow hw 69 rfl) (ow hw 2 rfl) (by decide) (by decide)) q104a q104c (g := (mkF m 300 #[.val (.ref pq), .val (.ref arr), .val (.long old), .second, .val (.long x), .second, .val (.long s'), .second, .val (.int ids), .val (.int fl), .val (.int (1 : Int32)), .val (.int (1 : Int32)), .val (.int (0 : Int32)), .val (.long jj), .second, .val (.long tt), .second, .val r1, .val r2, .val r3, .val r4, .val (.int (1 : Int32)), .val (.long tt), .second, .val (.int sm), s25, s26, s27, s28] [(.ref pq)])) rfl (by rw [hml]; rfl) (Steps.refl _) (argsL := []) (rest := []) (lenOf pd_6 rfl) rfl (by show 2 * 0 + _ ≤ _; exact Nat.le_of_eq rfl) (hb hby d3_300) (fun _ _ => ⟨rfl, e4, (by decide : 1 + 0 ≤ _), (by decide : 1 + 0 ≤ _)⟩)
  dsimp only [Pt.U, Pt.locs, Pt.cells, Pt.slots] at X104 l104 y104 z104 st104 hQ104
  subst l104 y104 z104
  obtain ⟨rfl, N104q, e104⟩ := hQ104
  have N104 := Fr.app N4 N104q
  obtain ⟨clz107, Arz107, qz107, Sz107, Nz107, Hz107, Gz107⟩ := id V5
  have hin108 : ¬ ((0 : Int32) < 0 ∨ clz107.slots.size ≤ ((0 : Int32)).toNatClampNeg) := inb_of Sz107 ⟨by decide, by decide⟩
  have hat108 : clz107.slots[((0 : Int32)).toNatClampNeg]? = some (.long (own_fl oj (own_or none (some tt)) (fx, fs) (own_cand old none)).1) := Hz107.at hin108 rfl
  have c109 := Fbpd101.keep K3 (ninS ne_pq_arr nin0)
  have c110 := c109.keep K4 (ninS ne_pq_arr nin0)
  obtain ⟨cq111, kq111, q111a, q111b, q111c⟩ := isOf hZ e104 c106
  obtain ⟨_, _, ⟨T111, L111, k111, n111⟩, -, X111, ⟨Lc111, hQ111, l111, y111, z111⟩, st111⟩ := X104.virtualBack hx (y := nm_12) (z := nm_12) hown (mvT hZ (ow hw 70 rfl)) (mvT hZ (ow hw 71 rfl)) (notFace_of_selects (args := #[]) (mvT hZ (ow hw 73 rfl))) (mvT hZ (ow hw 73 rfl)) (mvT hZ (ow hw 72 rfl)) (by decide) (backOf (W := 0) (rm12 l Z a0 hw [] pq (own_fl oj (own_or none (some tt)) (fx, fs) (own_cand old none)).2 h4 n0 (Nat.le_trans (Nat.le_trans (Nat.le_trans Z0 K1.1) K3.1) K4.1) c110) hZ (ow hw 74 rfl) (ow hw 2 rfl) (by decide) (by decide)) q111a q111c (g := (mkF m 311 #[.val (.ref pq), .val (.ref arr), .val (.long old), .second, .val (.long x), .second, .val (.long s'), .second, .val (.int ids), .val (.int fl), .val (.int (1 : Int32)), .val (.int (1 : Int32)), .val (.int (0 : Int32)), .val (.long jj), .second, .val (.long tt), .second, .val r1, .val r2, .val r3, .val r4, .val (.int (1 : Int32)), .val (.long tt), .second, .val (.int sm), s25, s26, s27, s28] [(.ref pq)])) rfl (by rw [hml]; rfl) (Steps.refl _) (argsL := []) (rest := []) (lenOf pd_6 rfl) rfl (by show 2 * 0 + _ ≤ _; exact Nat.le_of_eq rfl) (hb hby d3_311) (fun _ _ => ⟨rfl, e104, (by decide : 1 + 0 ≤ _), (by decide : 1 + 0 ≤ _)⟩)
  dsimp only [Pt.U, Pt.locs, Pt.cells, Pt.slots] at X111 l111 y111 z111 st111 hQ111
  subst l111 y111 z111
  obtain ⟨rfl, N111q, e111⟩ := hQ111
  have N111 := Fr.app N104 N111q
  obtain ⟨clz112, Arz112, qz112, Sz112, Nz112, Hz112, Gz112⟩ := id V5
  have hin113 : ¬ ((1 : Int32) < 0 ∨ clz112.slots.size ≤ ((1 : Int32)).toNatClampNeg) := inb_of Sz112 ⟨by decide, by decide⟩
  have hat113 : clz112.slots[((1 : Int32)).toNatClampNeg]? = some (.long (own_fl oj (own_or none (some tt)) (fx, fs) (own_cand old none)).2) := Hz112.at hin113 rfl
  have c114 := Fdpd101.keep K3 (ninS ne_pq_arr nin0)
  have c115 := c114.keep K4 (ninS ne_pq_arr nin0)
  obtain ⟨cq116, kq116, q116a, q116b, q116c⟩ := isOf hZ e111 c106
  obtain ⟨_, _, ⟨T116, L116, k116, n116⟩, -, X116, ⟨Lc116, hQ116, l116, y116, z116⟩, st116⟩ := X111.virtualBack hx (y := nm_13) (z := nm_13) hown (mvT hZ (ow hw 75 rfl)) (mvT hZ (ow hw 76 rfl)) (notFace_of_selects (args := #[]) (mvT hZ (ow hw 78 rfl))) (mvT hZ (ow hw 78 rfl)) (mvT hZ (ow hw 77 rfl)) (by decide) (backOf (W := 0) (rm13_0 l Z a0 hw [] pq h4 n0 (Nat.le_trans (Nat.le_trans (Nat.le_trans Z0 K1.1) K3.1) K4.1) c115) hZ (ow hw 79 rfl) (ow hw 2 rfl) (by decide) (by decide)) q116a q116c (g := (mkF m 322 #[.val (.ref pq), .val (.ref arr), .val (.long old), .second, .val (.long x), .second, .val (.long s'), .second, .val (.int ids), .val (.int fl), .val (.int (1 : Int32)), .val (.int (1 : Int32)), .val (.int (0 : Int32)), .val (.long jj), .second, .val (.long tt), .second, .val r1, .val r2, .val r3, .val r4, .val (.int (1 : Int32)), .val (.long tt), .second, .val (.int sm), s25, s26, s27, s28] [(.ref pq)])) rfl (by rw [hml]; rfl) (Steps.refl _) (argsL := []) (rest := []) (lenOf pd_8 rfl) rfl (by show 2 * 0 + _ ≤ _; exact Nat.le_of_eq rfl) (hb hby d3_322) (fun _ _ => ⟨rfl, e111, (by decide : 1 + 0 ≤ _), (by decide : 1 + 0 ≤ _)⟩)
  dsimp only [Pt.U, Pt.locs, Pt.cells, Pt.slots] at X116 l116 y116 z116 st116 hQ116
  subst l116 y116 z116
  obtain ⟨rfl, N116q, e116⟩ := hQ116
  have N116 := Fr.app N111 N116q
  have kp117 : Keep h0 h4 [pq, arr] := ((((Keep.refl h0 [pq, arr]).trans K1 (allS (Or.inl (List.mem_of_getElem? (i := 0) rfl)) all0)).trans K3 (allS (Or.inl (List.mem_of_getElem? (i := 1) rfl)) all0)).trans K4 (allS (Or.inl (List.mem_of_getElem? (i := 1) rfl)) all0))
  have c118 := Fcpd101.keep K3 (ninS ne_pq_arr nin0)
  have c119 := c118.keep K4 (ninS ne_pq_arr nin0)
  obtain ⟨fsq, hr, hrun, hended, hW, hsame⟩ := X116.leave (v := some (.int (1 : Int32))) (fun h => by rw [Bd.returns] at h; cases h)
  refine ⟨_, _, pre0 _ ?_, hrun, hended, _, _, rfl, ?_, ⟨_, rfl⟩, hW, hsame.mono (by decide) (by decide)⟩
  · show Steps p.tables e below (s₁.setTop (mkF m 0 #[.val (.ref pq), .val (.ref arr), .val (.long old), .second, .val (.long x), .second, .val (.long s'), .second, .val (.int ids), .val (.int fl), .unset, .unset, .unset, .unset, .unset, .unset, .unset, .unset, .unset, .unset, .unset, .unset, .unset, .unset, .unset, .unset, .unset, .unset, .unset] [])) _
    refine st1 _ ?_
    refine st2 _ ?_
    refine st3 _ ?_
    refine st4 _ ?_
    refine XS.aloadN X4.here hx rfl (hb hby d3_299) rfl rfl ?_
    refine st104.trans ?_
    refine XS.aloadN X104.here hx rfl (hb hby d3_303) rfl rfl ?_
    refine XS.iconst X104.here hx rfl (hb hby d3_304) ?_
    refine X104.laload hx (j := (0 : Int32)) (v := (.long (own_fl oj (own_or none (some tt)) (fx, fs) (own_cand old none)).1)) (by rw [e104]; exact Arz107.1) (State.isArrayOf_alike hZ.alike Arz107.2.1) Arz107.2.2 hin108 hat108 (g := (mkF m 305 #[.val (.ref pq), .val (.ref arr), .val (.long old), .second, .val (.long x), .second, .val (.long s'), .second, .val (.int ids), .val (.int fl), .val (.int (1 : Int32)), .val (.int (1 : Int32)), .val (.int (0 : Int32)), .val (.long jj), .second, .val (.long tt), .second, .val r1, .val r2, .val r3, .val r4, .val (.int (1 : Int32)), .val (.long tt), .second, .val (.int sm), s25, s26, s27, s28] [(.int (0 : Int32)), (.ref arr), (.long (own_fl oj (own_or none (some tt)) (fx, fs) (own_cand old none)).1)])) rfl rfl (hb hby d3_305) _ ?_
    refine XS.lcmp X104.here hx rfl (hb hby d3_306) rfl ?_
    refine XS.ifNo X104.here hx rfl (hb hby d3_307) rfl ((if0 _ _).trans (teq ((lw_eq _ _).mpr rfl)).2) ?_
    refine XS.aloadN X104.here hx rfl (hb hby d3_310) rfl rfl ?_
    show Steps p.tables e below (T104.setTop (mkF m 311 #[.val (.ref pq), .val (.ref arr), .val (.long old), .second, .val (.long x), .second, .val (.long s'), .second, .val (.int ids), .val (.int fl), .val (.int (1 : Int32)), .val (.int (1 : Int32)), .val (.int (0 : Int32)), .val (.long jj), .second, .val (.long tt), .second, .val r1, .val r2, .val r3, .val r4, .val (.int (1 : Int32)), .val (.long tt), .second, .val (.int sm), s25, s26, s27, s28] [(.ref pq)])) _
    refine st111.trans ?_
    refine XS.aloadN X111.here hx rfl (hb hby d3_314) rfl rfl ?_
    refine XS.iconst X111.here hx rfl (hb hby d3_315) ?_
    refine X111.laload hx (j := (1 : Int32)) (v := (.long (own_fl oj (own_or none (some tt)) (fx, fs) (own_cand old none)).2)) (by rw [e111]; exact Arz112.1) (State.isArrayOf_alike hZ.alike Arz112.2.1) Arz112.2.2 hin113 hat113 (g := (mkF m 316 #[.val (.ref pq), .val (.ref arr), .val (.long old), .second, .val (.long x), .second, .val (.long s'), .second, .val (.int ids), .val (.int fl), .val (.int (1 : Int32)), .val (.int (1 : Int32)), .val (.int (0 : Int32)), .val (.long jj), .second, .val (.long tt), .second, .val r1, .val r2, .val r3, .val r4, .val (.int (1 : Int32)), .val (.long tt), .second, .val (.int sm), s25, s26, s27, s28] [(.int (1 : Int32)), (.ref arr), (.long (own_fl oj (own_or none (some tt)) (fx, fs) (own_cand old none)).2)])) rfl rfl (hb hby d3_316) _ ?_
    refine XS.lcmp X111.here hx rfl (hb hby d3_317) rfl ?_
    refine XS.ifNo X111.here hx rfl (hb hby d3_318) rfl ((if0 _ _).trans (teq ((lw_eq _ _).mpr rfl)).2) ?_
    refine XS.aloadN X111.here hx rfl (hb hby d3_321) rfl rfl ?_
    refine st116.trans ?_
    refine XS.iload X116.here hx rfl (hb hby d3_325) rfl ?_
    show Steps p.tables e below (T116.setTop (mkF m 327 #[.val (.ref pq), .val (.ref arr), .val (.long old), .second, .val (.long x), .second, .val (.long s'), .second, .val (.int ids), .val (.int fl), .val (.int (1 : Int32)), .val (.int (1 : Int32)), .val (.int (0 : Int32)), .val (.long jj), .second, .val (.long tt), .second, .val r1, .val r2, .val r3, .val r4, .val (.int (1 : Int32)), .val (.long tt), .second, .val (.int sm), s25, s26, s27, s28] [(.int (1 : Int32)), (.int (0 : Int32))])) _
    refine XS.ifYes X116.here hx rfl (pc0 := 327) (pc' := 334) rfl (hb hby d3_327) rfl ((if0 _ _).trans (feq ((by decide) : ¬ ((1 : Int32) = (0 : Int32)))).2) (by decide) (by decide) ?_
    refine XS.iconst X116.here hx rfl (hb hby d3_334) ?_
    refine XS.icmpNo X116.here hx rfl (hb hby d3_335) rfl (teq (rfl : (0 : Int32) = (0 : Int32))).2 ?_
    refine XS.iconst X116.here hx rfl (hb hby d3_338) ?_
    refine XS.goto X116.here hx rfl (pc0 := 339) (pc' := 343) rfl (hb hby d3_339) (by decide) (by decide) ?_
    show Steps p.tables e below (T116.setTop (mkF m 343 #[.val (.ref pq), .val (.ref arr), .val (.long old), .second, .val (.long x), .second, .val (.long s'), .second, .val (.int ids), .val (.int fl), .val (.int (1 : Int32)), .val (.int (1 : Int32)), .val (.int (0 : Int32)), .val (.long jj), .second, .val (.long tt), .second, .val r1, .val r2, .val r3, .val r4, .val (.int (1 : Int32)), .val (.long tt), .second, .val (.int sm), s25, s26, s27, s28] [(.int (1 : Int32))])) _
    exact retN X116 hx (t := .boolean) Bd.returns (by simp) (hb hby d3_343) hr
  · show QS Z pq arr k h0 n0 _ T116.heap _
    rw [e116]
    exact ⟨rfl, N116, kp117, _, _, _, jr1, _, ⟨c106, c103, c110, c119, c115⟩, LN4, V5⟩
set_option maxRecDepth 65536 in
set_option maxHeartbeats 40000000 in
theorem rm3_111 (l : Launch) (Z : State) (a0 : Array Value) (hw : ∀ d ∈ tables_1, d.before a0 Z = true) (ws : List Jvm.Cond) (pq : Addr) (arr : Addr) (k : ClassId) (cb : Addr) (old : Int64) (x : Int64) (s' : Int64) (ids : Int32) (fl : Int32) (fx : Int64) (fs : Int64) (oj : Option Int64) (h0 : Heap) (n0 : Nat) (Z0 : n0 ≤ h0.size) (g0_pq : n0 ≤ pq) (g0_arr : n0 ≤ arr) (O0 : Old Z n0 h0) (SC : Sta Z Z.heap "java/lang/Long$LongCache" "cache" "[Ljava/lang/Long;" (.ref cb)) (LC : LCache Z cb) (IV : Inv Z h0 pq arr k fx fs oj) (hF : ¬ ((fl &&& (1 : Int32)) = (0 : Int32))) (hJ : ¬ ((fl &&& (2 : Int32)) = (0 : Int32))) (hT : ¬ ((fl &&& (4 : Int32)) = (0 : Int32))) :
    MetFree l nm_3 (head1 (Jvm.Cond.code nm_3 method_4_code 29 (some .boolean) :: ws) rr_4_4_4_53) (fun aa zU => aa = #[(.ref pq), (.ref arr), (.long old), (.long x), (.long s'), (.int ids), (.int fl)] ∧ Z.Warmed39 zU.vm ∧ zU.heap = h0) (fun _ _ _ _ _ => True) (fun _ zU zo zU' => ∃ zv zL, zo = .returned zv ∧ QS Z pq arr k h0 n0 zv zU'.heap zL ∧ FrameEnd zU zo zU' zL rr_4_4_4_53.cells rr_4_4_4_53.slots) := by
  refine MetFree.of_bodySF (plainFor_of_name pn_com_example_keyed_work_queue_keyedworkqueue_PendingFoundPinLaw) hisR ?_
  intro p e s m args below meth c s₁ Bd hml0 hP hK
  obtain ⟨rfl, hZ, hh⟩ := hP
  have hx := Bd.exec
  have hby := Bd.bytes
  have hml : c.maxLocals = 29 := hml0
  have hown : s.vm.findClass "com/example/keyed_work_queue/keyedworkqueue/PendingFoundPinLaw" = some m.cls := findClass_of_methodNamed Bd.named
  have hnm := (name_of_methodNamed Bd.named Bd.method).1
  have X0 : Stand p l e rr_4_4_4_53 s m #[(.ref pq), (.ref arr), (.long old), (.long x), (.long s'), (.int ids), (.int fl)] below meth c s₁ [] 0 0 := Stand.of_body Bd
  have e0 : s₁.heap = h0 := by rw [← hh, Bd.state]; rfl
  have N0 := Fr.nil n0
  have pre0 : ∀ t, Steps p.tables e below (s₁.setTop (mkF m 0 #[.val (.ref pq), .val (.ref arr), .val (.long old), .second, .val (.long x), .second, .val (.long s'), .second, .val (.int ids), .val (.int fl), .unset, .unset, .unset, .unset, .unset, .unset, .unset, .unset, .unset, .unset, .unset, .unset, .unset, .unset, .unset, .unset, .unset, .unset, .unset] [])) t → Steps p.tables e below (s₁.setTop (entryFrame m #[(.ref pq), (.ref arr), (.long old), (.long x), (.long s'), (.int ids), (.int fl)] 29)) t := fun t k => castTop (ef_3 m pq arr old x s' ids fl) k
  obtain ⟨jr, sn, PA, LJ, VA⟩ := IV
  obtain ⟨jj, hjj⟩ : ∃ z, ((1000 : Int64) + ((ids &&& (3 : Int32)).toInt64)) = z := ⟨_, rfl⟩
  obtain ⟨tt, htt⟩ : ∃ z, ((1000 : Int64) + (((ids >>> ((2 : Int32) &&& 31)) &&& (3 : Int32)).toInt64)) = z := ⟨_, rfl⟩
  obtain ⟨T1, h1, L1, jr1, r1, r2, r3, r4, X1, e1, N1, ⟨PB, LN, VB, O1, K1⟩, st1⟩ := s1_111 pq arr k cb old x s' ids fl fx fs jr sn oj (own_v2 oj) (own_v3 oj) jj tt X0 hx hZ hw hby hml hown e0 Z0 N0 hjj htt g0_pq g0_arr PA O0 SC LC LJ VA hF hJ hT
  have Z1 : n0 ≤ h1.size := Nat.le_trans Z0 K1.1
  have st2 := s2_11 pq arr k old x s' ids fl (1 : Int32) jj tt r1 r2 r3 r4 fx fs (own_v2 oj) (own_v3 oj) X1 hx hZ hw hby hml hown e1 (by decide) (by decide) VB
  obtain ⟨sm, hsm⟩ : ∃ z, own_sm (False) (own_v2 oj) (own_v3 oj) tt = z := ⟨_, rfl⟩
  rw [hsm] at st2
  obtain ⟨T3, h3, L3, s25, s26, s27, s28, X3, e3, N3, ⟨V3, K3⟩, st3⟩ := s3_1 pq arr k old x s' ids fl (1 : Int32) (1 : Int32) (1 : Int32) jj tt r1 r2 r3 r4 fx fs (own_v2 oj) (own_v3 oj) (0 : Int32) tt sm X1 hx hZ hw hby hml hown e1 (by decide) (by decide) Z1 N1 g0_arr VB
  have Z3 : n0 ≤ h3.size := Nat.le_trans Z1 K3.1
  obtain ⟨T4, h4, L4, X4, e4, N4, ⟨V4, K4⟩, st4⟩ := s4_1 pq arr k old x s' ids fl (1 : Int32) (1 : Int32) (1 : Int32) jj tt r1 r2 r3 r4 _ _ (own_v2 oj) (own_v3 oj) (0 : Int32) tt sm s25 s26 s27 s28 X3 hx hZ hw hby hml hown e3 (by decide) (by decide) Z3 N3 g0_arr V3
  have hq : (own_same oj none = true) ↔ ¬ (sm = 0) := by rw [own_smF, ← hsm, own_smZ]; simp
  have hNV : (if ¬ (sm = 0) then (fx, fs) else own_raise (fx, fs) (own_cand old none)) = (own_fl oj (own_or none none) (fx, fs) (own_cand old none)) := by
    show _ = (if own_same oj none = true then _ else _)
    by_cases q : own_same oj none = true
    · rw [if_pos q, if_pos (hq.mp q)]
    · rw [if_neg q, if_neg (fun z => q (hq.mpr z))]
  have hJ2 : own_v2 (own_jo oj none none) = (if ¬ (sm = 0) then ((1 : Int64), tt) else ((0 : Int64), (0 : Int64))).1 ∧ own_v3 (own_jo oj none none) = (if ¬ (sm = 0) then ((1 : Int64), tt) else ((0 : Int64), (0 : Int64))).2 := by
    rw [show (own_jo oj none none) = none from by unfold own_jo; split <;> rfl]
    rw [if_neg (fun z => absurd (hq.mpr z) (by rw [own_smF]; decide))]; exact ⟨rfl, rfl⟩
  rw [hNV, ← hJ2.1, ← hJ2.2] at V4
  have V5 : Arv Z h4 arr k .long (4 : Int32) [(.long (own_fl oj (own_or none none) (fx, fs) (own_cand old none)).1), (.long (own_fl oj (own_or none none) (fx, fs) (own_cand old none)).2), (.long (own_v2 (own_jo oj none none))), (.long (own_v3 (own_jo oj none none)))] (.long (0 : Int64)) := V4
  have LN4 := (LN.keepA K3 VB (ow hw 32 rfl)).keepA K4 V3 (ow hw 32 rfl)
  have ne_pq_arr : pq ≠ arr := own_pe PA.1 VA (ow hw 1 rfl)
  obtain ⟨Epd101, Fapd101, Fbpd101, Fcpd101, Fdpd101⟩ := PB
  have c102 := Fapd101.keep K3 (ninS ne_pq_arr nin0)
  have c103 := c102.keep K4 (ninS ne_pq_arr nin0)
  have c105 := Epd101.keep K3
  have c106 := c105.keep K4
  obtain ⟨cq104, kq104, q104a, q104b, q104c⟩ := isOf hZ e4 c106
  obtain ⟨_, _, ⟨T104, L104, k104, n104⟩, -, X104, ⟨Lc104, hQ104, l104, y104, z104⟩, st104⟩ := X4.virtualBack hx (y := nm_11) (z := nm_11) hown (mvT hZ (ow hw 65 rfl)) (mvT hZ (ow hw 66 rfl)) (notFace_of_selects (args := #[]) (mvT hZ (ow hw 68 rfl))) (mvT hZ (ow hw 68 rfl)) (mvT hZ (ow hw 67 rfl)) (by decide) (backOf (W := 0) (rm11 l Z a0 hw [] pq (own_fl oj (own_or none none) (fx, fs) (own_cand old none)).1 h4 n0 (Nat.le_trans (Nat.le_trans (Nat.le_trans Z0 K1.1) K3.1) K4.1) c103) hZ (ow hw 69 rfl) (ow hw 2 rfl) (by decide) (by decide)) q104a q104c (g := (mkF m 300 #[.val (.ref pq), .val (.ref arr), .val (.long old), .second, .val (.long x), .second, .val (.long s'), .second, .val (.int ids), .val (.int fl), .val (.int (1 : Int32)), .val (.int (1 : Int32)), .val (.int (1 : Int32)), .val (.long jj), .second, .val (.long tt), .second, .val r1, .val r2, .val r3, .val r4, .val (.int (0 : Int32)), .val (.long tt), .second, .val (.int sm), s25, s26, s27, s28] [(.ref pq)])) rfl (by rw [hml]; rfl) (Steps.refl _) (argsL := []) (rest := []) (lenOf pd_6 rfl) rfl (by show 2 * 0 + _ ≤ _; exact Nat.le_of_eq rfl) (hb hby d3_300) (fun _ _ => ⟨rfl, e4, (by decide : 0 + 0 ≤ _), (by decide : 0 + 0 ≤ _)⟩)
  dsimp only [Pt.U, Pt.locs, Pt.cells, Pt.slots] at X104 l104 y104 z104 st104 hQ104
  subst l104 y104 z104
  obtain ⟨rfl, N104q, e104⟩ := hQ104
  have N104 := Fr.app N4 N104q
  obtain ⟨clz107, Arz107, qz107, Sz107, Nz107, Hz107, Gz107⟩ := id V5
  have hin108 : ¬ ((0 : Int32) < 0 ∨ clz107.slots.size ≤ ((0 : Int32)).toNatClampNeg) := inb_of Sz107 ⟨by decide, by decide⟩
  have hat108 : clz107.slots[((0 : Int32)).toNatClampNeg]? = some (.long (own_fl oj (own_or none none) (fx, fs) (own_cand old none)).1) := Hz107.at hin108 rfl
  have c109 := Fbpd101.keep K3 (ninS ne_pq_arr nin0)
  have c110 := c109.keep K4 (ninS ne_pq_arr nin0)
  obtain ⟨cq111, kq111, q111a, q111b, q111c⟩ := isOf hZ e104 c106
  obtain ⟨_, _, ⟨T111, L111, k111, n111⟩, -, X111, ⟨Lc111, hQ111, l111, y111, z111⟩, st111⟩ := X104.virtualBack hx (y := nm_12) (z := nm_12) hown (mvT hZ (ow hw 70 rfl)) (mvT hZ (ow hw 71 rfl)) (notFace_of_selects (args := #[]) (mvT hZ (ow hw 73 rfl))) (mvT hZ (ow hw 73 rfl)) (mvT hZ (ow hw 72 rfl)) (by decide) (backOf (W := 0) (rm12 l Z a0 hw [] pq (own_fl oj (own_or none none) (fx, fs) (own_cand old none)).2 h4 n0 (Nat.le_trans (Nat.le_trans (Nat.le_trans Z0 K1.1) K3.1) K4.1) c110) hZ (ow hw 74 rfl) (ow hw 2 rfl) (by decide) (by decide)) q111a q111c (g := (mkF m 311 #[.val (.ref pq), .val (.ref arr), .val (.long old), .second, .val (.long x), .second, .val (.long s'), .second, .val (.int ids), .val (.int fl), .val (.int (1 : Int32)), .val (.int (1 : Int32)), .val (.int (1 : Int32)), .val (.long jj), .second, .val (.long tt), .second, .val r1, .val r2, .val r3, .val r4, .val (.int (0 : Int32)), .val (.long tt), .second, .val (.int sm), s25, s26, s27, s28] [(.ref pq)])) rfl (by rw [hml]; rfl) (Steps.refl _) (argsL := []) (rest := []) (lenOf pd_6 rfl) rfl (by show 2 * 0 + _ ≤ _; exact Nat.le_of_eq rfl) (hb hby d3_311) (fun _ _ => ⟨rfl, e104, (by decide : 0 + 0 ≤ _), (by decide : 0 + 0 ≤ _)⟩)
  dsimp only [Pt.U, Pt.locs, Pt.cells, Pt.slots] at X111 l111 y111 z111 st111 hQ111
  subst l111 y111 z111
  obtain ⟨rfl, N111q, e111⟩ := hQ111
  have N111 := Fr.app N104 N111q
  obtain ⟨clz112, Arz112, qz112, Sz112, Nz112, Hz112, Gz112⟩ := id V5
  have hin113 : ¬ ((1 : Int32) < 0 ∨ clz112.slots.size ≤ ((1 : Int32)).toNatClampNeg) := inb_of Sz112 ⟨by decide, by decide⟩
  have hat113 : clz112.slots[((1 : Int32)).toNatClampNeg]? = some (.long (own_fl oj (own_or none none) (fx, fs) (own_cand old none)).2) := Hz112.at hin113 rfl
  have c114 := Fdpd101.keep K3 (ninS ne_pq_arr nin0)
  have c115 := c114.keep K4 (ninS ne_pq_arr nin0)
  obtain ⟨cq116, kq116, q116a, q116b, q116c⟩ := isOf hZ e111 c106
  obtain ⟨_, _, ⟨T116, L116, k116, n116⟩, -, X116, ⟨Lc116, hQ116, l116, y116, z116⟩, st116⟩ := X111.virtualBack hx (y := nm_13) (z := nm_13) hown (mvT hZ (ow hw 75 rfl)) (mvT hZ (ow hw 76 rfl)) (notFace_of_selects (args := #[]) (mvT hZ (ow hw 78 rfl))) (mvT hZ (ow hw 78 rfl)) (mvT hZ (ow hw 77 rfl)) (by decide) (backOf (W := 0) (rm13_0 l Z a0 hw [] pq h4 n0 (Nat.le_trans (Nat.le_trans (Nat.le_trans Z0 K1.1) K3.1) K4.1) c115) hZ (ow hw 79 rfl) (ow hw 2 rfl) (by decide) (by decide)) q116a q116c (g := (mkF m 322 #[.val (.ref pq), .val (.ref arr), .val (.long old), .second, .val (.long x), .second, .val (.long s'), .second, .val (.int ids), .val (.int fl), .val (.int (1 : Int32)), .val (.int (1 : Int32)), .val (.int (1 : Int32)), .val (.long jj), .second, .val (.long tt), .second, .val r1, .val r2, .val r3, .val r4, .val (.int (0 : Int32)), .val (.long tt), .second, .val (.int sm), s25, s26, s27, s28] [(.ref pq)])) rfl (by rw [hml]; rfl) (Steps.refl _) (argsL := []) (rest := []) (lenOf pd_8 rfl) rfl (by show 2 * 0 + _ ≤ _; exact Nat.le_of_eq rfl) (hb hby d3_322) (fun _ _ => ⟨rfl, e111, (by decide : 0 + 0 ≤ _), (by decide : 0 + 0 ≤ _)⟩)
  dsimp only [Pt.U, Pt.locs, Pt.cells, Pt.slots] at X116 l116 y116 z116 st116 hQ116
  subst l116 y116 z116
  obtain ⟨rfl, N116q, e116⟩ := hQ116
  have N116 := Fr.app N111 N116q
  have kp117 : Keep h0 h4 [pq, arr] := ((((Keep.refl h0 [pq, arr]).trans K1 (allS (Or.inl (List.mem_of_getElem? (i := 0) rfl)) all0)).trans K3 (allS (Or.inl (List.mem_of_getElem? (i := 1) rfl)) all0)).trans K4 (allS (Or.inl (List.mem_of_getElem? (i := 1) rfl)) all0))
  have c118 := Fcpd101.keep K3 (ninS ne_pq_arr nin0)
  have c119 := c118.keep K4 (ninS ne_pq_arr nin0)
  obtain ⟨fsq, hr, hrun, hended, hW, hsame⟩ := X116.leave (v := some (.int (1 : Int32))) (fun h => by rw [Bd.returns] at h; cases h)
  refine ⟨_, _, pre0 _ ?_, hrun, hended, _, _, rfl, ?_, ⟨_, rfl⟩, hW, hsame.mono (by decide) (by decide)⟩
  · show Steps p.tables e below (s₁.setTop (mkF m 0 #[.val (.ref pq), .val (.ref arr), .val (.long old), .second, .val (.long x), .second, .val (.long s'), .second, .val (.int ids), .val (.int fl), .unset, .unset, .unset, .unset, .unset, .unset, .unset, .unset, .unset, .unset, .unset, .unset, .unset, .unset, .unset, .unset, .unset, .unset, .unset] [])) _
    refine st1 _ ?_
    refine st2 _ ?_
    refine st3 _ ?_
    refine st4 _ ?_
    refine XS.aloadN X4.here hx rfl (hb hby d3_299) rfl rfl ?_
    refine st104.trans ?_
    refine XS.aloadN X104.here hx rfl (hb hby d3_303) rfl rfl ?_
    refine XS.iconst X104.here hx rfl (hb hby d3_304) ?_
    refine X104.laload hx (j := (0 : Int32)) (v := (.long (own_fl oj (own_or none none) (fx, fs) (own_cand old none)).1)) (by rw [e104]; exact Arz107.1) (State.isArrayOf_alike hZ.alike Arz107.2.1) Arz107.2.2 hin108 hat108 (g := (mkF m 305 #[.val (.ref pq), .val (.ref arr), .val (.long old), .second, .val (.long x), .second, .val (.long s'), .second, .val (.int ids), .val (.int fl), .val (.int (1 : Int32)), .val (.int (1 : Int32)), .val (.int (1 : Int32)), .val (.long jj), .second, .val (.long tt), .second, .val r1, .val r2, .val r3, .val r4, .val (.int (0 : Int32)), .val (.long tt), .second, .val (.int sm), s25, s26, s27, s28] [(.int (0 : Int32)), (.ref arr), (.long (own_fl oj (own_or none none) (fx, fs) (own_cand old none)).1)])) rfl rfl (hb hby d3_305) _ ?_
    refine XS.lcmp X104.here hx rfl (hb hby d3_306) rfl ?_
    refine XS.ifNo X104.here hx rfl (hb hby d3_307) rfl ((if0 _ _).trans (teq ((lw_eq _ _).mpr rfl)).2) ?_
    refine XS.aloadN X104.here hx rfl (hb hby d3_310) rfl rfl ?_
    show Steps p.tables e below (T104.setTop (mkF m 311 #[.val (.ref pq), .val (.ref arr), .val (.long old), .second, .val (.long x), .second, .val (.long s'), .second, .val (.int ids), .val (.int fl), .val (.int (1 : Int32)), .val (.int (1 : Int32)), .val (.int (1 : Int32)), .val (.long jj), .second, .val (.long tt), .second, .val r1, .val r2, .val r3, .val r4, .val (.int (0 : Int32)), .val (.long tt), .second, .val (.int sm), s25, s26, s27, s28] [(.ref pq)])) _
    refine st111.trans ?_
    refine XS.aloadN X111.here hx rfl (hb hby d3_314) rfl rfl ?_
    refine XS.iconst X111.here hx rfl (hb hby d3_315) ?_
    refine X111.laload hx (j := (1 : Int32)) (v := (.long (own_fl oj (own_or none none) (fx, fs) (own_cand old none)).2)) (by rw [e111]; exact Arz112.1) (State.isArrayOf_alike hZ.alike Arz112.2.1) Arz112.2.2 hin113 hat113 (g := (mkF m 316 #[.val (.ref pq), .val (.ref arr), .val (.long old), .second, .val (.long x), .second, .val (.long s'), .second, .val (.int ids), .val (.int fl), .val (.int (1 : Int32)), .val (.int (1 : Int32)), .val (.int (1 : Int32)), .val (.long jj), .second, .val (.long tt), .second, .val r1, .val r2, .val r3, .val r4, .val (.int (0 : Int32)), .val (.long tt), .second, .val (.int sm), s25, s26, s27, s28] [(.int (1 : Int32)), (.ref arr), (.long (own_fl oj (own_or none none) (fx, fs) (own_cand old none)).2)])) rfl rfl (hb hby d3_316) _ ?_
    refine XS.lcmp X111.here hx rfl (hb hby d3_317) rfl ?_
    refine XS.ifNo X111.here hx rfl (hb hby d3_318) rfl ((if0 _ _).trans (teq ((lw_eq _ _).mpr rfl)).2) ?_
    refine XS.aloadN X111.here hx rfl (hb hby d3_321) rfl rfl ?_
    refine st116.trans ?_
    refine XS.iload X116.here hx rfl (hb hby d3_325) rfl ?_
    show Steps p.tables e below (T116.setTop (mkF m 327 #[.val (.ref pq), .val (.ref arr), .val (.long old), .second, .val (.long x), .second, .val (.long s'), .second, .val (.int ids), .val (.int fl), .val (.int (1 : Int32)), .val (.int (1 : Int32)), .val (.int (1 : Int32)), .val (.long jj), .second, .val (.long tt), .second, .val r1, .val r2, .val r3, .val r4, .val (.int (0 : Int32)), .val (.long tt), .second, .val (.int sm), s25, s26, s27, s28] [(.int (1 : Int32)), (.int (0 : Int32))])) _
    refine XS.ifYes X116.here hx rfl (pc0 := 327) (pc' := 334) rfl (hb hby d3_327) rfl ((if0 _ _).trans (feq ((by decide) : ¬ ((1 : Int32) = (0 : Int32)))).2) (by decide) (by decide) ?_
    refine XS.iconst X116.here hx rfl (hb hby d3_334) ?_
    refine XS.icmpNo X116.here hx rfl (hb hby d3_335) rfl (teq (rfl : (0 : Int32) = (0 : Int32))).2 ?_
    refine XS.iconst X116.here hx rfl (hb hby d3_338) ?_
    refine XS.goto X116.here hx rfl (pc0 := 339) (pc' := 343) rfl (hb hby d3_339) (by decide) (by decide) ?_
    show Steps p.tables e below (T116.setTop (mkF m 343 #[.val (.ref pq), .val (.ref arr), .val (.long old), .second, .val (.long x), .second, .val (.long s'), .second, .val (.int ids), .val (.int fl), .val (.int (1 : Int32)), .val (.int (1 : Int32)), .val (.int (1 : Int32)), .val (.long jj), .second, .val (.long tt), .second, .val r1, .val r2, .val r3, .val r4, .val (.int (0 : Int32)), .val (.long tt), .second, .val (.int sm), s25, s26, s27, s28] [(.int (1 : Int32))])) _
    exact retN X116 hx (t := .boolean) Bd.returns (by simp) (hb hby d3_343) hr
  · show QS Z pq arr k h0 n0 _ T116.heap _
    rw [e116]
    exact ⟨rfl, N116, kp117, _, _, _, jr1, _, ⟨c106, c103, c110, c119, c115⟩, LN4, V5⟩
theorem rm3 (l : Launch) (Z : State) (a0 : Array Value) (hw : ∀ d ∈ tables_1, d.before a0 Z = true) (ws : List Jvm.Cond) (pq : Addr) (arr : Addr) (k : ClassId) (cb : Addr) (old : Int64) (x : Int64) (s' : Int64) (ids : Int32) (fl : Int32) (fx : Int64) (fs : Int64) (oj : Option Int64) (h0 : Heap) (n0 : Nat) (Z0 : n0 ≤ h0.size) (g0_pq : n0 ≤ pq) (g0_arr : n0 ≤ arr) (O0 : Old Z n0 h0) (SC : Sta Z Z.heap "java/lang/Long$LongCache" "cache" "[Ljava/lang/Long;" (.ref cb)) (LC : LCache Z cb) (IV : Inv Z h0 pq arr k fx fs oj) :
    MetFree l nm_3 (head1 (Jvm.Cond.code nm_3 method_4_code 29 (some .boolean) :: ws) rr_4_4_4_53) (fun aa zU => aa = #[(.ref pq), (.ref arr), (.long old), (.long x), (.long s'), (.int ids), (.int fl)] ∧ Z.Warmed39 zU.vm ∧ zU.heap = h0) (fun _ _ _ _ _ => True) (fun _ zU zo zU' => ∃ zv zL, zo = .returned zv ∧ QS Z pq arr k h0 n0 zv zU'.heap zL ∧ FrameEnd zU zo zU' zL rr_4_4_4_53.cells rr_4_4_4_53.slots) := by
  by_cases c1 : (fl &&& (1 : Int32)) = (0 : Int32) <;> by_cases c2 : (fl &&& (2 : Int32)) = (0 : Int32) <;> by_cases c4 : (fl &&& (4 : Int32)) = (0 : Int32)
  · exact rm3_000 l Z a0 hw ws pq arr k cb old x s' ids fl fx fs oj h0 n0 Z0 g0_pq g0_arr O0 SC LC IV c1 c2 c4
  · exact rm3_001 l Z a0 hw ws pq arr k cb old x s' ids fl fx fs oj h0 n0 Z0 g0_pq g0_arr O0 SC LC IV c1 c2 c4
  · exact rm3_010 l Z a0 hw ws pq arr k cb old x s' ids fl fx fs oj h0 n0 Z0 g0_pq g0_arr O0 SC LC IV c1 c2 c4
  · exact rm3_011 l Z a0 hw ws pq arr k cb old x s' ids fl fx fs oj h0 n0 Z0 g0_pq g0_arr O0 SC LC IV c1 c2 c4
  · exact rm3_100 l Z a0 hw ws pq arr k cb old x s' ids fl fx fs oj h0 n0 Z0 g0_pq g0_arr O0 SC LC IV c1 c2 c4
  · exact rm3_101 l Z a0 hw ws pq arr k cb old x s' ids fl fx fs oj h0 n0 Z0 g0_pq g0_arr O0 SC LC IV c1 c2 c4
  · exact rm3_110 l Z a0 hw ws pq arr k cb old x s' ids fl fx fs oj h0 n0 Z0 g0_pq g0_arr O0 SC LC IV c1 c2 c4
  · exact rm3_111 l Z a0 hw ws pq arr k cb old x s' ids fl fx fs oj h0 n0 Z0 g0_pq g0_arr O0 SC LC IV c1 c2 c4
def QF (h0 : Heap) (n0 : Nat) (v : Option Value) (h : Heap) (L : List Loc) : Prop := v = some (.int (1 : Int32)) ∧ Fr n0 L
theorem pd_1 : parseMethodDescriptor "(Lcom/example/keyed_work_queue/keyedworkqueue/Pending;[JJJJII)Z" = some ⟨[(.object "com/example/keyed_work_queue/keyedworkqueue/Pending"), (.array .long), .long, .long, .long, .int, .int], some .boolean⟩ := by decide +kernel
theorem ef_0 (m : MethodId) (x0 : Int64) (x1 : Int64) (x2 : Int64) (x3 : Int64) (x4 : Int32) (x5 : Int32) : entryFrame m #[(.long x0), (.long x1), (.long x2), (.long x3), (.int x4), (.int x5)] maxLocals = mkF m 0 #[.val (.long x0), .second, .val (.long x1), .second, .val (.long x2), .second, .val (.long x3), .second, .val (.int x4), .val (.int x5), .unset, .unset, .unset] [] := by first | (simp [entryFrame, mkF, argsToLocals, Value.category, maxLocals]; done) | rfl
set_option maxRecDepth 65536 in
set_option maxHeartbeats 40000000 in
theorem rm0 (l : Launch) (Z : State) (a0 : Array Value) (hw : ∀ d ∈ tables_1, d.before a0 Z = true) (ws : List Jvm.Cond) (q1 : Int64) (q2 : Int64) (q3 : Int64) (q4 : Int64) (p5 : Int32) (p6 : Int32) (cb : Addr) (h0 : Heap) (n0 : Nat) (Z0 : n0 ≤ h0.size) (O0 : Old Z n0 h0) (SC : Sta Z Z.heap "java/lang/Long$LongCache" "cache" "[Ljava/lang/Long;" (.ref cb)) (LC : LCache Z cb) :
    MetFree l x (head1 (Jvm.Cond.code x code maxLocals ret :: ws) room_1) (fun aa zU => aa = #[(.long q1), (.long q2), (.long q3), (.long q4), (.int p5), (.int p6)] ∧ Z.Warmed39 zU.vm ∧ zU.heap = h0) (fun _ _ _ _ _ => True) (fun _ zU zo zU' => ∃ zv zL, zo = .returned zv ∧ QF h0 n0 zv zU'.heap zL ∧ FrameEnd zU zo zU' zL room_1.cells room_1.slots) := by
  refine MetFree.of_bodySF (plainFor_of_name pn_com_example_keyed_work_queue_keyedworkqueue_PendingFoundPinLaw) hisR ?_
  intro p e s m args below meth c s₁ Bd hml0 hP hK
  obtain ⟨rfl, hZ, hh⟩ := hP
  have hx := Bd.exec
  have hby := Bd.bytes
  have hml : c.maxLocals = 13 := hml0
  have hown : s.vm.findClass "com/example/keyed_work_queue/keyedworkqueue/PendingFoundPinLaw" = some m.cls := findClass_of_methodNamed Bd.named
  have hnm := (name_of_methodNamed Bd.named Bd.method).1
  have X0 : Stand p l e room_1 s m #[(.long q1), (.long q2), (.long q3), (.long q4), (.int p5), (.int p6)] below meth c s₁ [] 0 0 := Stand.of_body Bd
  have e0 : s₁.heap = h0 := by rw [← hh, Bd.state]; rfl
  have N0 := Fr.nil n0
  have pre0 : ∀ t, Steps p.tables e below (s₁.setTop (mkF m 0 #[.val (.long q1), .second, .val (.long q2), .second, .val (.long q3), .second, .val (.long q4), .second, .val (.int p5), .val (.int p6), .unset, .unset, .unset] [])) t → Steps p.tables e below (s₁.setTop (entryFrame m #[(.long q1), (.long q2), (.long q3), (.long q4), (.int p5), (.int p6)] maxLocals)) t := fun t k => castTop (ef_0 m q1 q2 q3 q4 p5 p6) k
  obtain ⟨T1, h1, X1, e1, E1, A1, D1, -, st1⟩ := newO X0 hx hZ hown (ow hw 0 rfl) (ow hw 1 rfl) (ow hw 2 rfl) e0 (g := (mkF m 0 #[.val (.long q1), .second, .val (.long q2), .second, .val (.long q3), .second, .val (.long q4), .second, .val (.int p5), .val (.int p6), .unset, .unset, .unset] [])) rfl (hb hby at_0) (by decide) (by decide)
  obtain ⟨b1, g_b1⟩ : ∃ z, z = h0.size := ⟨_, rfl⟩
  rw [← g_b1] at A1 D1 st1
  have g0_b1 : n0 ≤ b1 := Nat.le_trans Z0 (Nat.le_of_eq g_b1.symm)
  have sz_b1 : h0.size ≤ b1 := Nat.le_trans (Nat.le_refl _) (Nat.le_of_eq g_b1.symm)
  have F_floorXact_b1 : Fld Z h1 b1 "com/example/keyed_work_queue/keyedworkqueue/Pending" "floorXact" "J" (.long (0 : Int64)) := D1 (Or.inl (ow hw 11 rfl)) (ty := .long) (by decide)
  have F_floorSeq_b1 : Fld Z h1 b1 "com/example/keyed_work_queue/keyedworkqueue/Pending" "floorSeq" "J" (.long (0 : Int64)) := D1 (Or.inl (ow hw 13 rfl)) (ty := .long) (by decide)
  have F_seen_b1 : Fld Z h1 b1 "com/example/keyed_work_queue/keyedworkqueue/Pending" "seen" "Z" (.int (0 : Int32)) := D1 (Or.inl (ow hw 15 rfl)) (ty := .boolean) (by decide)
  have F_joinedIn_b1 : Fld Z h1 b1 "com/example/keyed_work_queue/keyedworkqueue/Pending" "joinedIn" "Ljava/lang/Long;" .null := D1 (Or.inl (ow hw 52 rfl)) (ty := (.object "java/lang/Long")) (by decide)
  obtain ⟨_, _, ⟨T2, L2, k2, n2⟩, -, X2, ⟨Lc2, hQ2, l2, y2, z2⟩, st2⟩ := X1.specialBack hx (y := nm_1) rfl hown (mvT hZ (ow hw 3 rfl)) (mvT hZ (ow hw 4 rfl)) (mvT hZ (ow hw 5 rfl)) (by decide) (backOf (W := 1) (rm1 l Z a0 hw [] b1 h1 n0 (Nat.le_trans Z0 E1.1) g0_b1 ⟨A1, F_floorXact_b1, F_floorSeq_b1, F_joinedIn_b1, F_seen_b1⟩) hZ (ow hw 5 rfl) (ow hw 2 rfl) (by decide) (by decide)) (g := (mkF m 4 #[.val (.long q1), .second, .val (.long q2), .second, .val (.long q3), .second, .val (.long q4), .second, .val (.int p5), .val (.int p6), .unset, .unset, .unset] [(.ref b1), (.ref b1)])) rfl (by rw [hml]; rfl) (Steps.refl _) (a := b1) (argsL := []) (rest := [(.ref b1)]) (lenOf pd_0 rfl) rfl (by show 2 * 0 + _ ≤ _; exact Nat.le_of_eq rfl) (hb hby at_4) (fun _ _ => ⟨rfl, e1, (by decide : 1 + 0 ≤ _), (by decide : 4 + 0 ≤ _)⟩)
  dsimp only [Pt.U, Pt.locs, Pt.cells, Pt.slots] at X2 l2 y2 z2 st2 hQ2
  subst l2 y2 z2
  obtain ⟨rfl, N2q, K2, PB2⟩ := hQ2
  have N2 := Fr.app N0 N2q
  obtain ⟨Epd3, Fapd3, Fbpd3, Fcpd3, Fdpd3⟩ := PB2
  obtain ⟨T4, h4, k4, X4, e4, E4, A4, st4⟩ := newP X2 hx hZ (ow hw 16 rfl) rfl (g := (mkF m 10 #[.val (.long q1), .second, .val (.long q2), .second, .val (.long q3), .second, .val (.long q4), .second, .val (.int p5), .val (.int p6), .val (.ref b1), .unset, .unset] [(.int (4 : Int32))])) rfl (hb hby at_10) rfl (by decide) (cap := 4) (by decide) (by decide) (by decide) (by decide)
  obtain ⟨b4, g_b4⟩ : ∃ z, z = T2.heap.size := ⟨_, rfl⟩
  rw [← g_b4] at A4 st4
  have g0_b4 : n0 ≤ b4 := Nat.le_trans (Nat.le_trans (Nat.le_trans Z0 E1.1) K2.1) (Nat.le_of_eq g_b4.symm)
  have sz_b4 : h0.size ≤ b4 := Nat.le_trans (Nat.le_trans (Nat.le_trans (Nat.le_refl _) E1.1) K2.1) (Nat.le_of_eq g_b4.symm)
  have ne_b1_b4 : b1 ≠ b4 := Nat.ne_of_lt (Nat.lt_of_lt_of_le Epd3.lt (Nat.le_of_eq g_b4.symm))
  have V_b4 : Arv Z h4 b4 k4 .long (4 : Int32) [(.long (0 : Int64)), (.long (0 : Int64)), (.long (0 : Int64)), (.long (0 : Int64))] (.long (0 : Int64)) := (Arv.new A4 (by decide)).pad (pad_rep [] (.long (0 : Int64)) 4)
  obtain ⟨clz5, Arz5, qz5, Sz5, Nz5, Hz5, Gz5⟩ := id V_b4
  have hin6 : ¬ ((0 : Int32) < 0 ∨ clz5.slots.size ≤ ((0 : Int32)).toNatClampNeg) := inb_of Sz5 ⟨by decide, by decide⟩
  obtain ⟨T6, h6, X6, e6, W6, st6⟩ := stJ X4 hx hZ e4 Arz5 (j := (0 : Int32)) hin6 (g := (mkF m 17 #[.val (.long q1), .second, .val (.long q2), .second, .val (.long q3), .second, .val (.long q4), .second, .val (.int p5), .val (.int p6), .val (.ref b1), .unset, .unset] [(.long (-9223372036854775808 : Int64)), (.int (0 : Int32)), (.ref b4), (.ref b4)])) rfl rfl (hb hby at_17)
  have V6 : Arv Z h6 b4 k4 .long (4 : Int32) [(.long (-9223372036854775808 : Int64)), (.long (0 : Int64)), (.long (0 : Int64)), (.long (0 : Int64))] (.long (0 : Int64)) := Arv.set Arz5 qz5 Sz5 Nz5 Hz5 Gz5 rfl W6 0 rfl (Nat.le_of_ble_eq_true rfl)
  have N6 := Fr.snoc X6 N2 g0_b4
  obtain ⟨clz7, Arz7, qz7, Sz7, Nz7, Hz7, Gz7⟩ := id V6
  have hin8 : ¬ ((1 : Int32) < 0 ∨ clz7.slots.size ≤ ((1 : Int32)).toNatClampNeg) := inb_of Sz7 ⟨by decide, by decide⟩
  obtain ⟨T8, h8, X8, e8, W8, st8⟩ := stJ X6 hx hZ e6 Arz7 (j := (1 : Int32)) hin8 (g := (mkF m 23 #[.val (.long q1), .second, .val (.long q2), .second, .val (.long q3), .second, .val (.long q4), .second, .val (.int p5), .val (.int p6), .val (.ref b1), .unset, .unset] [(.long (-9223372036854775808 : Int64)), (.int (1 : Int32)), (.ref b4), (.ref b4)])) rfl rfl (hb hby at_23)
  have V8 : Arv Z h8 b4 k4 .long (4 : Int32) [(.long (-9223372036854775808 : Int64)), (.long (-9223372036854775808 : Int64)), (.long (0 : Int64)), (.long (0 : Int64))] (.long (0 : Int64)) := Arv.set Arz7 qz7 Sz7 Nz7 Hz7 Gz7 rfl W8 1 rfl (Nat.le_of_ble_eq_true rfl)
  have N8 := Fr.snoc X8 N6 g0_b4
  obtain ⟨clz9, Arz9, qz9, Sz9, Nz9, Hz9, Gz9⟩ := id V8
  have hin10 : ¬ ((2 : Int32) < 0 ∨ clz9.slots.size ≤ ((2 : Int32)).toNatClampNeg) := inb_of Sz9 ⟨by decide, by decide⟩
  obtain ⟨T10, h10, X10, e10, W10, st10⟩ := stJ X8 hx hZ e8 Arz9 (j := (2 : Int32)) hin10 (g := (mkF m 27 #[.val (.long q1), .second, .val (.long q2), .second, .val (.long q3), .second, .val (.long q4), .second, .val (.int p5), .val (.int p6), .val (.ref b1), .unset, .unset] [(.long (0 : Int64)), (.int (2 : Int32)), (.ref b4), (.ref b4)])) rfl rfl (hb hby at_27)
  have V10 : Arv Z h10 b4 k4 .long (4 : Int32) [(.long (-9223372036854775808 : Int64)), (.long (-9223372036854775808 : Int64)), (.long (0 : Int64)), (.long (0 : Int64))] (.long (0 : Int64)) := Arv.set Arz9 qz9 Sz9 Nz9 Hz9 Gz9 rfl W10 2 rfl (Nat.le_of_ble_eq_true rfl)
  have N10 := Fr.snoc X10 N8 g0_b4
  obtain ⟨clz11, Arz11, qz11, Sz11, Nz11, Hz11, Gz11⟩ := id V10
  have hin12 : ¬ ((3 : Int32) < 0 ∨ clz11.slots.size ≤ ((3 : Int32)).toNatClampNeg) := inb_of Sz11 ⟨by decide, by decide⟩
  obtain ⟨T12, h12, X12, e12, W12, st12⟩ := stJ X10 hx hZ e10 Arz11 (j := (3 : Int32)) hin12 (g := (mkF m 31 #[.val (.long q1), .second, .val (.long q2), .second, .val (.long q3), .second, .val (.long q4), .second, .val (.int p5), .val (.int p6), .val (.ref b1), .unset, .unset] [(.long (0 : Int64)), (.int (3 : Int32)), (.ref b4), (.ref b4)])) rfl rfl (hb hby at_31)
  have V12 : Arv Z h12 b4 k4 .long (4 : Int32) [(.long (-9223372036854775808 : Int64)), (.long (-9223372036854775808 : Int64)), (.long (0 : Int64)), (.long (0 : Int64))] (.long (0 : Int64)) := Arv.set Arz11 qz11 Sz11 Nz11 Hz11 Gz11 rfl W12 3 rfl (Nat.le_of_ble_eq_true rfl)
  have N12 := Fr.snoc X12 N10 g0_b4
  have c13 := Epd3.ext E4
  have c14 := c13.wr W6
  have c15 := c14.wr W8
  have c16 := c15.wr W10
  have c17 := c16.wr W12
  have c18 := Fapd3.ext E4
  have c19 := c18.other W6 (Or.inl ne_b1_b4)
  have c20 := c19.other W8 (Or.inl ne_b1_b4)
  have c21 := c20.other W10 (Or.inl ne_b1_b4)
  have c22 := c21.other W12 (Or.inl ne_b1_b4)
  have c23 := Fbpd3.ext E4
  have c24 := c23.other W6 (Or.inl ne_b1_b4)
  have c25 := c24.other W8 (Or.inl ne_b1_b4)
  have c26 := c25.other W10 (Or.inl ne_b1_b4)
  have c27 := c26.other W12 (Or.inl ne_b1_b4)
  have c28 := Fcpd3.ext E4
  have c29 := c28.other W6 (Or.inl ne_b1_b4)
  have c30 := c29.other W8 (Or.inl ne_b1_b4)
  have c31 := c30.other W10 (Or.inl ne_b1_b4)
  have c32 := c31.other W12 (Or.inl ne_b1_b4)
  have c33 := Fdpd3.ext E4
  have c34 := c33.other W6 (Or.inl ne_b1_b4)
  have c35 := c34.other W8 (Or.inl ne_b1_b4)
  have c36 := c35.other W10 (Or.inl ne_b1_b4)
  have c37 := c36.other W12 (Or.inl ne_b1_b4)
  have IV0 : Inv Z h12 b1 b4 k4 (-9223372036854775808 : Int64) (-9223372036854775808 : Int64) none := ⟨.null, (.int (1 : Int32)), ⟨c17, c22, c27, c32, c37⟩, Or.inl ⟨rfl, rfl⟩, V12⟩
  have c38 := O0.ext E1
  have c39 := c38.keep K2 (allS g0_b1 all0)
  have c40 := c39.ext E4
  have c41 := c40.wr W6 g0_b4
  have c42 := c41.wr W8 g0_b4
  have c43 := c42.wr W10 g0_b4
  have c44 := c43.wr W12 g0_b4
  obtain ⟨_, _, ⟨T45, L45, k45, n45⟩, -, X45, ⟨Lc45, hQ45, l45, y45, z45⟩, st45⟩ := Jvm.LawKit.callS X12 hx (y := nm_3) hown (mvT hZ (ow hw 18 rfl)) (mvT hZ (ow hw 19 rfl)) (mvT hZ (ow hw 20 rfl)) (mvT hZ (ow hw 21 rfl)) (by decide) (backOf (W := 1) (rm3 l Z a0 hw [] b1 b4 k4 cb q1 q2 q3 p5 p6 (-9223372036854775808 : Int64) (-9223372036854775808 : Int64) none h12 n0 (Nat.le_trans (Nat.le_trans (Nat.le_trans (Nat.le_trans (Nat.le_trans (Nat.le_trans (Nat.le_trans Z0 E1.1) K2.1) E4.1) (Keep.of_wr W6).1) (Keep.of_wr W8).1) (Keep.of_wr W10).1) (Keep.of_wr W12).1) g0_b1 g0_b4 c44 SC LC IV0) hZ (ow hw 21 rfl) (ow hw 20 rfl) (by decide) (by decide)) (g := (mkF m 51 #[.val (.long q1), .second, .val (.long q2), .second, .val (.long q3), .second, .val (.long q4), .second, .val (.int p5), .val (.int p6), .val (.ref b1), .val (.ref b4), .val (.int (1 : Int32))] [(.int p6), (.int p5), (.long q3), (.long q2), (.long q1), (.ref b4), (.ref b1), (.int (1 : Int32))])) rfl (by rw [hml]; rfl) (argsL := [(.ref b1), (.ref b4), (.long q1), (.long q2), (.long q3), (.int p5), (.int p6)]) (rest := [(.int (1 : Int32))]) (lenOf pd_1 rfl) rfl (by show 2 * 0 + _ ≤ _; exact Nat.le_of_eq rfl) (hb hby at_51) (fun _ _ => ⟨rfl, e12, (by decide : 2 + 4 ≤ _), (by decide : 8 + 4 ≤ _)⟩)
  dsimp only [Pt.U, Pt.locs, Pt.cells, Pt.slots] at X45 l45 y45 z45 st45 hQ45
  subst l45 y45 z45
  obtain ⟨rfl, N45q, K45, fx45, fs45, oj45, IV45⟩ := hQ45
  have N45 := Fr.app N12 N45q
  have c46 := c44.keep K45 (allS g0_b1 (allS g0_b4 all0))
  obtain ⟨_, _, ⟨T47, L47, k47, n47⟩, -, X47, ⟨Lc47, hQ47, l47, y47, z47⟩, st47⟩ := Jvm.LawKit.callS X45 hx (y := nm_3) hown (mvT hZ (ow hw 18 rfl)) (mvT hZ (ow hw 19 rfl)) (mvT hZ (ow hw 20 rfl)) (mvT hZ (ow hw 21 rfl)) (by decide) (backOf (W := 1) (rm3 l Z a0 hw [] b1 b4 k4 cb q4 q3 q2 (p5 >>> ((4 : Int32) &&& 31)) (p6 >>> ((3 : Int32) &&& 31)) fx45 fs45 oj45 T45.heap n0 (Nat.le_trans (Nat.le_trans (Nat.le_trans (Nat.le_trans (Nat.le_trans (Nat.le_trans (Nat.le_trans (Nat.le_trans Z0 E1.1) K2.1) E4.1) (Keep.of_wr W6).1) (Keep.of_wr W8).1) (Keep.of_wr W10).1) (Keep.of_wr W12).1) K45.1) g0_b1 g0_b4 c46 SC LC IV45) hZ (ow hw 21 rfl) (ow hw 20 rfl) (by decide) (by decide)) (g := (mkF m 76 #[.val (.long q1), .second, .val (.long q2), .second, .val (.long q3), .second, .val (.long q4), .second, .val (.int p5), .val (.int p6), .val (.ref b1), .val (.ref b4), .val (.int ((1 : Int32) &&& (1 : Int32)))] [(.int (p6 >>> ((3 : Int32) &&& 31))), (.int (p5 >>> ((4 : Int32) &&& 31))), (.long q2), (.long q3), (.long q4), (.ref b4), (.ref b1), (.int ((1 : Int32) &&& (1 : Int32)))])) rfl (by rw [hml]; rfl) (argsL := [(.ref b1), (.ref b4), (.long q4), (.long q3), (.long q2), (.int (p5 >>> ((4 : Int32) &&& 31))), (.int (p6 >>> ((3 : Int32) &&& 31)))]) (rest := [(.int ((1 : Int32) &&& (1 : Int32)))]) (lenOf pd_1 rfl) rfl (by show 2 * 0 + _ ≤ _; exact Nat.le_of_eq rfl) (hb hby at_76) (fun _ _ => ⟨rfl, rfl, (by decide : 6 + 4 ≤ _), (by decide : 12 + 4 ≤ _)⟩)
  dsimp only [Pt.U, Pt.locs, Pt.cells, Pt.slots] at X47 l47 y47 z47 st47 hQ47
  subst l47 y47 z47
  obtain ⟨rfl, N47q, K47, fx47, fs47, oj47, IV47⟩ := hQ47
  have N47 := Fr.app N45 N47q
  have c48 := c46.keep K47 (allS g0_b1 (allS g0_b4 all0))
  obtain ⟨_, _, ⟨T49, L49, k49, n49⟩, -, X49, ⟨Lc49, hQ49, l49, y49, z49⟩, st49⟩ := Jvm.LawKit.callS X47 hx (y := nm_3) hown (mvT hZ (ow hw 18 rfl)) (mvT hZ (ow hw 19 rfl)) (mvT hZ (ow hw 20 rfl)) (mvT hZ (ow hw 21 rfl)) (by decide) (backOf (W := 1) (rm3 l Z a0 hw [] b1 b4 k4 cb q2 q1 q4 (p5 >>> ((8 : Int32) &&& 31)) (p6 >>> ((6 : Int32) &&& 31)) fx47 fs47 oj47 T47.heap n0 (Nat.le_trans (Nat.le_trans (Nat.le_trans (Nat.le_trans (Nat.le_trans (Nat.le_trans (Nat.le_trans (Nat.le_trans (Nat.le_trans Z0 E1.1) K2.1) E4.1) (Keep.of_wr W6).1) (Keep.of_wr W8).1) (Keep.of_wr W10).1) (Keep.of_wr W12).1) K45.1) K47.1) g0_b1 g0_b4 c48 SC LC IV47) hZ (ow hw 21 rfl) (ow hw 20 rfl) (by decide) (by decide)) (g := (mkF m 102 #[.val (.long q1), .second, .val (.long q2), .second, .val (.long q3), .second, .val (.long q4), .second, .val (.int p5), .val (.int p6), .val (.ref b1), .val (.ref b4), .val (.int (((1 : Int32) &&& (1 : Int32)) &&& (1 : Int32)))] [(.int (p6 >>> ((6 : Int32) &&& 31))), (.int (p5 >>> ((8 : Int32) &&& 31))), (.long q4), (.long q1), (.long q2), (.ref b4), (.ref b1), (.int (((1 : Int32) &&& (1 : Int32)) &&& (1 : Int32)))])) rfl (by rw [hml]; rfl) (argsL := [(.ref b1), (.ref b4), (.long q2), (.long q1), (.long q4), (.int (p5 >>> ((8 : Int32) &&& 31))), (.int (p6 >>> ((6 : Int32) &&& 31)))]) (rest := [(.int (((1 : Int32) &&& (1 : Int32)) &&& (1 : Int32)))]) (lenOf pd_1 rfl) rfl (by show 2 * 0 + _ ≤ _; exact Nat.le_of_eq rfl) (hb hby at_102) (fun _ _ => ⟨rfl, rfl, (by decide : 10 + 4 ≤ _), (by decide : 16 + 4 ≤ _)⟩)
  dsimp only [Pt.U, Pt.locs, Pt.cells, Pt.slots] at X49 l49 y49 z49 st49 hQ49
  subst l49 y49 z49
  obtain ⟨rfl, N49q, K49, fx49, fs49, oj49, IV49⟩ := hQ49
  have N49 := Fr.app N47 N49q
  obtain ⟨fsq, hr, hrun, hended, hW, hsame⟩ := X49.leave (v := some (.int ((((1 : Int32) &&& (1 : Int32)) &&& (1 : Int32)) &&& (1 : Int32)))) (fun h => by rw [Bd.returns] at h; cases h)
  refine ⟨_, _, pre0 _ ?_, hrun, hended, _, _, rfl, ?_, ⟨_, rfl⟩, hW, hsame.mono (by decide) (by decide)⟩
  · show Steps p.tables e below (s₁.setTop (mkF m 0 #[.val (.long q1), .second, .val (.long q2), .second, .val (.long q3), .second, .val (.long q4), .second, .val (.int p5), .val (.int p6), .unset, .unset, .unset] [])) _
    refine st1 _ ?_
    refine XS.dup X1.here hx rfl (hb hby at_3) rfl rfl ?_
    refine st2.trans ?_
    refine XS.astore X2.here hx rfl (hb hby at_7) rfl rfl (l' := #[.val (.long q1), .second, .val (.long q2), .second, .val (.long q3), .second, .val (.long q4), .second, .val (.int p5), .val (.int p6), .val (.ref b1), .unset, .unset]) rfl ?_
    refine XS.iconst X2.here hx rfl (hb hby at_9) ?_
    refine st4 _ ?_
    refine XS.dup X4.here hx rfl (hb hby at_12) rfl rfl ?_
    refine XS.iconst X4.here hx rfl (hb hby at_13) ?_
    refine X4.ldc2Long hx hown (mvT hZ (ow hw 17 rfl)) (g := (mkF m 14 #[.val (.long q1), .second, .val (.long q2), .second, .val (.long q3), .second, .val (.long q4), .second, .val (.int p5), .val (.int p6), .val (.ref b1), .unset, .unset] [(.int (0 : Int32)), (.ref b4), (.ref b4)])) rfl (hb hby at_14) _ ?_
    show Steps p.tables e below (T4.setTop (mkF m 17 #[.val (.long q1), .second, .val (.long q2), .second, .val (.long q3), .second, .val (.long q4), .second, .val (.int p5), .val (.int p6), .val (.ref b1), .unset, .unset] [(.long (-9223372036854775808 : Int64)), (.int (0 : Int32)), (.ref b4), (.ref b4)])) _
    refine st6 _ ?_
    refine XS.dup X6.here hx rfl (hb hby at_18) rfl rfl ?_
    refine XS.iconst X6.here hx rfl (hb hby at_19) ?_
    refine X6.ldc2Long hx hown (mvT hZ (ow hw 17 rfl)) (g := (mkF m 20 #[.val (.long q1), .second, .val (.long q2), .second, .val (.long q3), .second, .val (.long q4), .second, .val (.int p5), .val (.int p6), .val (.ref b1), .unset, .unset] [(.int (1 : Int32)), (.ref b4), (.ref b4)])) rfl (hb hby at_20) _ ?_
    refine st8 _ ?_
    refine XS.dup X8.here hx rfl (hb hby at_24) rfl rfl ?_
    refine XS.iconst X8.here hx rfl (hb hby at_25) ?_
    refine XS.lconst X8.here hx rfl (hb hby at_26) ?_
    refine st10 _ ?_
    show Steps p.tables e below (T10.setTop (mkF m 28 #[.val (.long q1), .second, .val (.long q2), .second, .val (.long q3), .second, .val (.long q4), .second, .val (.int p5), .val (.int p6), .val (.ref b1), .unset, .unset] [(.ref b4)])) _
    refine XS.dup X10.here hx rfl (hb hby at_28) rfl rfl ?_
    refine XS.iconst X10.here hx rfl (hb hby at_29) ?_
    refine XS.lconst X10.here hx rfl (hb hby at_30) ?_
    refine st12 _ ?_
    refine XS.astore X12.here hx rfl (hb hby at_32) rfl rfl (l' := #[.val (.long q1), .second, .val (.long q2), .second, .val (.long q3), .second, .val (.long q4), .second, .val (.int p5), .val (.int p6), .val (.ref b1), .val (.ref b4), .unset]) rfl ?_
    refine XS.iconst X12.here hx rfl (hb hby at_34) ?_
    refine XS.istore X12.here hx rfl (hb hby at_35) rfl (l' := #[.val (.long q1), .second, .val (.long q2), .second, .val (.long q3), .second, .val (.long q4), .second, .val (.int p5), .val (.int p6), .val (.ref b1), .val (.ref b4), .val (.int (1 : Int32))]) rfl ?_
    refine XS.iload X12.here hx rfl (hb hby at_37) rfl ?_
    refine XS.aload X12.here hx rfl (hb hby at_39) rfl rfl ?_
    show Steps p.tables e below (T12.setTop (mkF m 41 #[.val (.long q1), .second, .val (.long q2), .second, .val (.long q3), .second, .val (.long q4), .second, .val (.int p5), .val (.int p6), .val (.ref b1), .val (.ref b4), .val (.int (1 : Int32))] [(.ref b1), (.int (1 : Int32))])) _
    refine XS.aload X12.here hx rfl (hb hby at_41) rfl rfl ?_
    refine XS.lloadN X12.here hx rfl (hb hby at_43) rfl ?_
    refine XS.lloadN X12.here hx rfl (hb hby at_44) rfl ?_
    refine XS.lload X12.here hx rfl (hb hby at_45) rfl ?_
    refine XS.iload X12.here hx rfl (hb hby at_47) rfl ?_
    refine XS.iload X12.here hx rfl (hb hby at_49) rfl ?_
    refine st45 _ ?_
    refine XS.iand X45.here hx rfl (hb hby at_54) rfl ?_
    refine XS.istore X45.here hx rfl (hb hby at_55) rfl (l' := #[.val (.long q1), .second, .val (.long q2), .second, .val (.long q3), .second, .val (.long q4), .second, .val (.int p5), .val (.int p6), .val (.ref b1), .val (.ref b4), .val (.int ((1 : Int32) &&& (1 : Int32)))]) rfl ?_
    show Steps p.tables e below (T45.setTop (mkF m 57 #[.val (.long q1), .second, .val (.long q2), .second, .val (.long q3), .second, .val (.long q4), .second, .val (.int p5), .val (.int p6), .val (.ref b1), .val (.ref b4), .val (.int ((1 : Int32) &&& (1 : Int32)))] [])) _
    refine XS.iload X45.here hx rfl (hb hby at_57) rfl ?_
    refine XS.aload X45.here hx rfl (hb hby at_59) rfl rfl ?_
    refine XS.aload X45.here hx rfl (hb hby at_61) rfl rfl ?_
    refine XS.lload X45.here hx rfl (hb hby at_63) rfl ?_
    refine XS.lload X45.here hx rfl (hb hby at_65) rfl ?_
    refine XS.lloadN X45.here hx rfl (hb hby at_67) rfl ?_
    refine XS.iload X45.here hx rfl (hb hby at_68) rfl ?_
    refine XS.iconst X45.here hx rfl (hb hby at_70) ?_
    refine XS.ishr X45.here hx rfl (hb hby at_71) rfl ?_
    show Steps p.tables e below (T45.setTop (mkF m 72 #[.val (.long q1), .second, .val (.long q2), .second, .val (.long q3), .second, .val (.long q4), .second, .val (.int p5), .val (.int p6), .val (.ref b1), .val (.ref b4), .val (.int ((1 : Int32) &&& (1 : Int32)))] [(.int (p5 >>> ((4 : Int32) &&& 31))), (.long q2), (.long q3), (.long q4), (.ref b4), (.ref b1), (.int ((1 : Int32) &&& (1 : Int32)))])) _
    refine XS.iload X45.here hx rfl (hb hby at_72) rfl ?_
    refine XS.iconst X45.here hx rfl (hb hby at_74) ?_
    refine XS.ishr X45.here hx rfl (hb hby at_75) rfl ?_
    refine st47 _ ?_
    refine XS.iand X47.here hx rfl (hb hby at_79) rfl ?_
    refine XS.istore X47.here hx rfl (hb hby at_80) rfl (l' := #[.val (.long q1), .second, .val (.long q2), .second, .val (.long q3), .second, .val (.long q4), .second, .val (.int p5), .val (.int p6), .val (.ref b1), .val (.ref b4), .val (.int (((1 : Int32) &&& (1 : Int32)) &&& (1 : Int32)))]) rfl ?_
    refine XS.iload X47.here hx rfl (hb hby at_82) rfl ?_
    refine XS.aload X47.here hx rfl (hb hby at_84) rfl rfl ?_
    refine XS.aload X47.here hx rfl (hb hby at_86) rfl rfl ?_
    show Steps p.tables e below (T47.setTop (mkF m 88 #[.val (.long q1), .second, .val (.long q2), .second, .val (.long q3), .second, .val (.long q4), .second, .val (.int p5), .val (.int p6), .val (.ref b1), .val (.ref b4), .val (.int (((1 : Int32) &&& (1 : Int32)) &&& (1 : Int32)))] [(.ref b4), (.ref b1), (.int (((1 : Int32) &&& (1 : Int32)) &&& (1 : Int32)))])) _
    refine XS.lloadN X47.here hx rfl (hb hby at_88) rfl ?_
    refine XS.lloadN X47.here hx rfl (hb hby at_89) rfl ?_
    refine XS.lload X47.here hx rfl (hb hby at_90) rfl ?_
    refine XS.iload X47.here hx rfl (hb hby at_92) rfl ?_
    refine XS.bipush X47.here hx rfl (hb hby at_94) ?_
    refine XS.ishr X47.here hx rfl (hb hby at_96) rfl ?_
    refine XS.iload X47.here hx rfl (hb hby at_97) rfl ?_
    refine XS.bipush X47.here hx rfl (hb hby at_99) ?_
    refine XS.ishr X47.here hx rfl (hb hby at_101) rfl ?_
    show Steps p.tables e below (T47.setTop (mkF m 102 #[.val (.long q1), .second, .val (.long q2), .second, .val (.long q3), .second, .val (.long q4), .second, .val (.int p5), .val (.int p6), .val (.ref b1), .val (.ref b4), .val (.int (((1 : Int32) &&& (1 : Int32)) &&& (1 : Int32)))] [(.int (p6 >>> ((6 : Int32) &&& 31))), (.int (p5 >>> ((8 : Int32) &&& 31))), (.long q4), (.long q1), (.long q2), (.ref b4), (.ref b1), (.int (((1 : Int32) &&& (1 : Int32)) &&& (1 : Int32)))])) _
    refine st49 _ ?_
    refine XS.iand X49.here hx rfl (hb hby at_105) rfl ?_
    refine XS.istore X49.here hx rfl (hb hby at_106) rfl (l' := #[.val (.long q1), .second, .val (.long q2), .second, .val (.long q3), .second, .val (.long q4), .second, .val (.int p5), .val (.int p6), .val (.ref b1), .val (.ref b4), .val (.int ((((1 : Int32) &&& (1 : Int32)) &&& (1 : Int32)) &&& (1 : Int32)))]) rfl ?_
    refine XS.iload X49.here hx rfl (hb hby at_108) rfl ?_
    show Steps p.tables e below (T49.setTop (mkF m 110 #[.val (.long q1), .second, .val (.long q2), .second, .val (.long q3), .second, .val (.long q4), .second, .val (.int p5), .val (.int p6), .val (.ref b1), .val (.ref b4), .val (.int ((((1 : Int32) &&& (1 : Int32)) &&& (1 : Int32)) &&& (1 : Int32)))] [(.int ((((1 : Int32) &&& (1 : Int32)) &&& (1 : Int32)) &&& (1 : Int32)))])) _
    exact retN X49 hx (t := .boolean) Bd.returns (by simp) (hb hby at_110) hr
  · show QF h0 n0 _ T49.heap _
    exact ⟨rfl, N49⟩
theorem own_size {s : State} {args : Array Value} {t : Term} {b : Addr} {cl : Cell} (ev : t.eval args s none [] s = some (.ref b)) (ha : s.arrayAt? b = some cl)
    (h4 : (Jvm.Cond.eq (Term.length t) (Term.int 256)).value args s none s [] = some true) : cl.slots.size = 256 := by
  obtain ⟨x, y, e1, e2, -, -⟩ := cmp_v (Or.inl h4)
  have hl : cl.slots.size < 2 ^ 31 := by
    refine Nat.lt_of_not_le fun q => ?_
    simp only [Term.eval, ev, ha, Option.bind_eq_bind, Option.bind_some, if_neg (Nat.not_lt.mpr q)] at e1
    cases e1
  have e3 := len_f ev ha hl
  have e4 : cl.slots.size.toInt32 = (256 : Int32) := by simpa [Cond.value, e3, Term.int_eval] using h4
  have e5 := len_toInt hl
  rw [e4] at e5
  have e6 : (256 : Int32).toInt = 256 := by decide
  omega
theorem own_elem {s : State} {args : Array Value} {t : Term} {b : Addr} {cl : Cell} {i : Nat} {x : Addr} (ev : t.eval args s none [i] s = some (.ref b)) (ha : s.arrayAt? b = some cl) (hi : i < 256) (h : (Term.elem t (Term.index 0)).eval args s none [i] s = some (.ref x)) : cl.slots[i]? = some (.ref x) := by
  have e1 : (Term.index 0).eval args s none [i] s = some (.int i.toInt32) := rfl
  have a1 : i.toInt32.toInt = i := len_toInt (by omega)
  have hn : ¬ i.toInt32 < 0 := by
    rw [Int32.lt_iff_toInt_lt, a1]
    have e0 : (0 : Int32).toInt = 0 := by decide
    omega
  have e2 := elem_f ev e1 ha hn
  have e3 : i.toInt32.toNatClampNeg = i := by
    show i.toInt32.toInt.toNat = i
    rw [a1]; rfl
  rw [e3] at e2
  exact e2.symm.trans h
theorem own_cache {s : State} {args : Array Value} {t : Term} {b : Addr} (ev : ∀ idx, t.eval args s none idx s = some (.ref b))
    (h2 : (Jvm.Cond.arrayOf t (.object "java/lang/Long")).value args s none s [] = some true)
    (h4 : (Jvm.Cond.eq (Term.length t) (Term.int 256)).value args s none s [] = some true)
    (h5 : (Jvm.Cond.all t (Jvm.Cond.and (Jvm.Cond.exactly (Term.elem t (Term.index 0)) "java/lang/Long") (Jvm.Cond.eq (Term.field (Term.elem t (Term.index 0)) "java/lang/Long" "value" "J") (Term.op1 Jvm.Unary.i2l (Term.sub (Term.index 0) (Term.int 128)))))).value args s none s [] = some true) : LCache s b := by
  obtain ⟨cl, Ar⟩ := Arr.start (ev []) h2
  have ha : s.arrayAt? b = some cl := Ar.fin (Vm.Alike.refl _)
  have hs := own_size (ev []) ha h4
  refine ⟨cl, Ar, hs, fun i hi => ?_⟩
  obtain ⟨hx, he⟩ := and_e (Cond.all_elim (ev []) ha h5 i (by rw [hs]; exact hi))
  obtain ⟨a, c, cell, k, e1, e2, e3, e4, e5, rfl, e7⟩ := Cond.exactly_spec (beq_iff_eq.mpr hx : (Jvm.Cond.exactly (Term.elem t (Term.index 0)) "java/lang/Long").holds args s none s [i] = true)
  refine ⟨a, own_elem (ev [i]) ha hi e1, ⟨cell, k, e3, e2, e4, e5, e7⟩, ?_⟩
  obtain ⟨x, y, f1, f2, k1, k2⟩ := cmp_v (Or.inl he)
  have f3 : (Term.op1 Jvm.Unary.i2l (Term.sub (Term.index 0) (Term.int 128))).eval args s none [i] s = some (.long (i.toInt32 - 128).toInt64) := rfl
  cases f3.symm.trans f2
  obtain ⟨z, rfl⟩ := k2
  have e8 : z = (i.toInt32 - 128).toInt64 := gotT (eq_L f1 f3) he
  have a1 : i.toInt32.toInt = i := len_toInt (by omega)
  have a2 := c_isub i.toInt32 128
  have a3 : (128 : Int32).toInt = 128 := by decide
  have a4 := rng32 (i.toInt32 - 128)
  have a5 : (i.toInt32 - 128).toInt = (i : Int) - 128 := by omega
  have e9 : z = Int64.ofInt ((i : Int) - 128) := by
    rw [e8]
    apply Int64.toInt_inj.mp
    rw [c_i2l, a5, Int64.toInt_ofInt]
    show (i : Int) - 128 = ((i : Int) - 128).bmod (2 ^ 64)
    have := Int.bmod_eq_of_le (n := (i : Int) - 128) (m := 2 ^ 64) (by omega) (by omega)
    omega
  subst e9
  exact Fld.start ((fld_at e1).symm.trans f1)
set_option maxRecDepth 65536 in
set_option maxHeartbeats 40000000 in
theorem comes_1 {Post : Tables → Env → Array Value → State → Outcome → State → Prop} (hpost : ∀ tb e args s v u, (limb_1_1.after args s (.returned v) u = true ∧ limb_1_2.after args s (.returned v) u = true ∧ True) → FrameEnd s (.returned v) u (Jvm.fieldLocs frame_1_writes args s ++ Jvm.arrayLocs frame_1_arrays args s ++ Jvm.staticLocs frame_1_statics s) 40 128 → Post tb e args s (.returned v) u) :
    ArmFor flags0 classFile x code maxLocals ret World_1 tables_1 room_1 Calls_1 rest_1 Pre_1 Post := by
  intro l hfl _ _ p e ha hc hk s m args below hf hA hF happ hP
  obtain ⟨hcalls, hrest, hpre⟩ := hP
  obtain ⟨-, -, -, hnamed, -, -, -, hat⟩ := (Spec.applies_iff hf).mp happ
  obtain ⟨hg, hn⟩ := and_e (Cond.before_iff.mp (show (Jvm.Cond.and given_1 narrow_1).before args s = true from hpre))
  obtain ⟨hcount, hk0⟩ := and_e hg
  obtain ⟨ha0, hk1⟩ := and_e hk0
  obtain ⟨ha1, hk2⟩ := and_e hk1
  obtain ⟨ha2, hk3⟩ := and_e hk2
  obtain ⟨ha3, hk4⟩ := and_e hk3
  obtain ⟨ha4, hk5⟩ := and_e hk4
  have ha5 := hk5
  obtain ⟨w0, w1, w2, w3, w4, w5, rfl⟩ : ∃ w0 w1 w2 w3 w4 w5 : Value, args = #[w0, w1, w2, w3, w4, w5] := by
    have hs : args.size = 6 := by simpa [Cond.value, given_1] using hcount
    obtain ⟨L⟩ := args
    match L, hs with
    | [w0, w1, w2, w3, w4, w5], _ => exact ⟨w0, w1, w2, w3, w4, w5, rfl⟩
  obtain ⟨i0, ei0⟩ := isL_v ha0
  obtain rfl : w0 = (.long i0) := Option.some.inj ei0
  obtain ⟨i1, ei1⟩ := isL_v ha1
  obtain rfl : w1 = (.long i1) := Option.some.inj ei1
  obtain ⟨i2, ei2⟩ := isL_v ha2
  obtain rfl : w2 = (.long i2) := Option.some.inj ei2
  obtain ⟨i3, ei3⟩ := isL_v ha3
  obtain rfl : w3 = (.long i3) := Option.some.inj ei3
  obtain ⟨i4, ei4⟩ := is_v ha4
  obtain rfl : w4 = (.int i4) := Option.some.inj ei4
  obtain ⟨i5, ei5⟩ := is_v ha5
  obtain rfl : w5 = (.int i5) := Option.some.inj ei5
  have hw := fun d (hd : d ∈ tables_1) => atoms_spec (ws := Jvm.Cond.code x code maxLocals ret :: tables_1) hat d (List.mem_cons_of_mem _ hd)
  obtain ⟨hsets, hown0⟩ := atoms_of _ (rest_1_c_eq ▸ (show rest_1_c.before _ s = true from hrest))
  have hz := fun i {d : Jvm.Cond} (h : jdkStatics_1[i]? = some d) => hsets d (List.mem_of_getElem? h)
  have w2 := Cond.before_iff.mp (hz 2 rfl)
  obtain ⟨cb, ev⟩ := arr_v w2
  have SC := Sta.start ev (Or.inl (hz 1 rfl))
  have LC := own_cache (fun _ => ev) w2 (Cond.before_iff.mp (hz 4 rfl)) (Cond.before_iff.mp (hz 5 rfl))
  obtain ⟨n, o, h1, h2, h3, _, L, rfl, ⟨rfl, N⟩, hq⟩ := rm0 l s _ hw tables_1 i0 i1 i2 i3 i4 i5 cb s.heap s.heap.size (Nat.le_refl _) (Old.start s) SC LC p e ha hc hk s m _ below hf ((Spec.applies_iff_loose hf).mp happ).1 ⟨rfl, State.Warmed39.refl s, rfl⟩ trivial
  refine ⟨n, _, h1, h2, h3, hpost _ _ _ _ _ _ ⟨Cond.after_iff.mpr rfl, Cond.after_iff.mpr (eq_i res_at (Term.int_eval (1)) rfl), trivial⟩ ⟨hq.1, hq.2.1, (hq.2.2.sift fun y hy => Or.inr (N y hy)).mono (by decide) (by decide)⟩⟩
theorem main_1_1 : Claimed_1_1 := comes_1 fun _ _ _ _ _ _ h hF => ⟨h.1, hF⟩
theorem main_1_2 : Claimed_1_2 := comes_1 fun _ _ _ _ _ _ h hF => ⟨h.2.1, hF⟩
end Jvm.Pilot.@@N@@
namespace Jvm.Pilot.@@N@@
open Jvm Jvm.ClassFile Sem Op Lib Jvm.Free Jvm.Stand Jvm.Pilot.@@N@@.Jvm.D
/-! MADE BY PROGRAM (witnessworld.py) out of the Statement's table words and the real class files: 18 classes; the members and pool entries that the words name. The judged class is class 1, her method 1. -/
namespace start1
open Jvm.ClassFile
def u (s : String) : CpInfo := .utf8 (stringToUtf16 s)
/-- a pool by its gaps: so many unusable entries, then the entry; so many at the end -/
def gap : Nat → List CpInfo → List CpInfo
  | 0, r => r
  | n + 1, r => .unusable :: gap n r
def poolList (es : List (Nat × CpInfo)) (last : Nat) : List CpInfo := es.foldr (fun e r => gap e.1 (e.2 :: r)) (gap last [])
def pool (es : List (Nat × CpInfo)) (last : Nat) : Array CpInfo := ⟨poolList es last⟩
def fileOf (pool : Array CpInfo) (this : Nat) (attrs : Array Attribute := #[]) (ms : Array MethodInfo := #[]) (fl : Nat := 33) (sup : Nat := 0) (ifs : Array Nat := #[]) (fds : Array FieldInfo := #[]) : ClassFile where
  minorVersion := 0
  majorVersion := 65
  constantPool := pool
  accessFlags := fl
  thisClass := this
  superClass := sup
  interfaces := ifs
  fields := fds
  methods := ms
  attributes := attrs
def plain (name : String) (sup : Option ClassId) : Class where
  name := name
  kind := .ordinary
  loader := none
  accessFlags := 33
  super := sup
  interfaces := #[]
  cf := none
  fields := #[]
  methods := #[]
  instanceTypes := #[]
  staticTypes := #[]
  resolved := #[]
  callSites := []
  init := .initialized
  statics := none
  mirror := none

def pool0 : Array CpInfo := pool [(5, u "<init>"), (0, u "()V"), (1, .class_ 10), (1, u "java/lang/Object")] 113

def k0c0 : Code := { maxStack := 0, maxLocals := 1, code := object_method_1_code, exceptionTable := #[], attributes := #[] }
def k0m0 : Method := { name := "<init>", desc := "()V", sig := { parameters := [], returnType := none }, accessFlags := 1, code := some k0c0 }
/-- java/lang/Object -/
def k0 : Class := { plain "java/lang/Object" none with
  accessFlags := 33
  interfaces := #[]
  cf := some (fileOf pool0 8 #[] #[{ accessFlags := 1, nameIndex := 5, descriptorIndex := 6, attributes := #[] }] 33 0 #[] #[])
  fields := #[]
  methods := #[k0m0]
  instanceTypes := #[]
  staticTypes := #[]
  resolved := Array.replicate 124 none
  statics := none }

def pool1 : Array CpInfo := pool [(2, .class_ 4), (0, .nameAndType 5 6), (0, u "java/lang/Object"), (0, u "<init>"), (0, u "()V"), (0, .class_ 8), (0, u "com/example/keyed_work_queue/keyedworkqueue/Pending"), (0, .methodref 7 3), (0, .class_ 11), (0, u "java/lang/Long"), (0, .long 9223372036854775808), (1, .methodref 15 16), (0, .class_ 17), (0, .nameAndType 18 19), (0, u "com/example/keyed_work_queue/keyedworkqueue/PendingFoundPinLaw"), (0, u "step"), (0, u "(Lcom/example/keyed_work_queue/keyedworkqueue/Pending;[JJJJII)Z"), (0, .long 1000), (1, .methodref 10 23), (0, .nameAndType 24 25), (0, u "valueOf"), (0, u "(J)Ljava/lang/Long;"), (0, .methodref 7 27), (0, .nameAndType 28 29), (0, u "found"), (0, u "(JLjava/lang/Long;Ljava/lang/Long;Ljava/lang/Long;Ljava/lang/Long;)V"), (0, .methodref 15 31), (0, .nameAndType 32 33), (0, u "lexLess"), (0, u "(JJJJ)Z"), (0, .methodref 7 35), (0, .nameAndType 36 37), (0, u "floorXact"), (0, u "()J"), (0, .methodref 7 39), (0, .nameAndType 40 37), (0, u "floorSeq"), (0, .methodref 7 42), (0, .nameAndType 43 44), (0, u "mayHaveJobs"), (0, u "()Z"), (2, u "law"), (0, u "(JJJJII)Z")] 5

def k1m0 : Method := { name := "<init>", desc := "()V", sig := { parameters := [], returnType := none }, accessFlags := 1, code := none }
def k1c1 : Code := { maxStack := 12, maxLocals := 13, code := code, exceptionTable := #[], attributes := #[] }
def k1m1 : Method := { name := "law", desc := "(JJJJII)Z", sig := { parameters := [.long, .long, .long, .long, .int, .int], returnType := some .boolean }, accessFlags := 9, code := some k1c1 }
def k1c2 : Code := { maxStack := 4, maxLocals := 8, code := method_3_code, exceptionTable := #[], attributes := #[] }
def k1m2 : Method := { name := "lexLess", desc := "(JJJJ)Z", sig := { parameters := [.long, .long, .long, .long], returnType := some .boolean }, accessFlags := 10, code := some k1c2 }
def k1c3 : Code := { maxStack := 8, maxLocals := 29, code := method_4_code, exceptionTable := #[], attributes := #[] }
def k1m3 : Method := { name := "step", desc := "(Lcom/example/keyed_work_queue/keyedworkqueue/Pending;[JJJJII)Z", sig := { parameters := [(.object "com/example/keyed_work_queue/keyedworkqueue/Pending"), (.array .long), .long, .long, .long, .int, .int], returnType := some .boolean }, accessFlags := 10, code := some k1c3 }
/-- com/example/keyed_work_queue/keyedworkqueue/PendingFoundPinLaw -/
def k1 : Class := { plain "com/example/keyed_work_queue/keyedworkqueue/PendingFoundPinLaw" (some 0) with
  accessFlags := 49
  interfaces := #[]
  cf := some (fileOf pool1 15 #[] #[{ accessFlags := 1, nameIndex := 5, descriptorIndex := 6, attributes := #[] }, { accessFlags := 9, nameIndex := 47, descriptorIndex := 48, attributes := #[] }, { accessFlags := 10, nameIndex := 32, descriptorIndex := 33, attributes := #[] }, { accessFlags := 10, nameIndex := 18, descriptorIndex := 19, attributes := #[] }] 49 2 #[] #[])
  fields := #[]
  methods := #[k1m0, k1m1, k1m2, k1m3]
  instanceTypes := #[]
  staticTypes := #[]
  resolved := Array.replicate 54 none
  statics := none }

def pool2 : Array CpInfo := pool [(1, .methodref 2 3), (0, .class_ 4), (0, .nameAndType 5 6), (0, u "java/lang/Object"), (0, u "<init>"), (0, u "()V"), (0, .class_ 8), (0, u "java/lang/Long"), (0, .long 9223372036854775808), (1, .fieldref 12 13), (0, .class_ 14), (0, .nameAndType 15 16), (0, u "com/example/keyed_work_queue/keyedworkqueue/Pending"), (0, u "floorXact"), (0, u "J"), (0, .fieldref 12 18), (0, .nameAndType 19 16), (0, u "floorSeq"), (0, .fieldref 12 21), (0, .nameAndType 22 23), (0, u "seen"), (0, u "Z"), (0, .fieldref 12 25), (0, .nameAndType 26 27), (0, u "joinedIn"), (0, u "Ljava/lang/Long;"), (0, .methodref 7 29), (0, .nameAndType 30 31), (0, u "equals"), (0, u "(Ljava/lang/Object;)Z"), (0, .methodref 12 33), (0, .nameAndType 34 35), (0, u "raiseFloor"), (0, u "(JLjava/lang/Long;Ljava/lang/Long;)V"), (0, .methodref 7 37), (0, .nameAndType 38 39), (0, u "longValue"), (0, u "()J"), (2, u "mayHaveJobs"), (0, u "()Z"), (0, u "found"), (0, u "(JLjava/lang/Long;Ljava/lang/Long;Ljava/lang/Long;Ljava/lang/Long;)V")] 3

def k2c0 : Code := { maxStack := 3, maxLocals := 1, code := prog_27_method_1_code, exceptionTable := #[], attributes := #[] }
def k2m0 : Method := { name := "<init>", desc := "()V", sig := { parameters := [], returnType := none }, accessFlags := 0, code := some k2c0 }
def k2c1 : Code := { maxStack := 2, maxLocals := 1, code := prog_27_method_2_code, exceptionTable := #[], attributes := #[] }
def k2m1 : Method := { name := "floorXact", desc := "()J", sig := { parameters := [], returnType := some .long }, accessFlags := 0, code := some k2c1 }
def k2c2 : Code := { maxStack := 2, maxLocals := 1, code := prog_27_method_3_code, exceptionTable := #[], attributes := #[] }
def k2m2 : Method := { name := "floorSeq", desc := "()J", sig := { parameters := [], returnType := some .long }, accessFlags := 0, code := some k2c2 }
def k2c3 : Code := { maxStack := 1, maxLocals := 1, code := prog_27_method_4_code, exceptionTable := #[], attributes := #[] }
def k2m3 : Method := { name := "mayHaveJobs", desc := "()Z", sig := { parameters := [], returnType := some .boolean }, accessFlags := 0, code := some k2c3 }
def k2c4 : Code := { maxStack := 5, maxLocals := 9, code := prog_27_method_5_code, exceptionTable := #[], attributes := #[] }
def k2m4 : Method := { name := "found", desc := "(JLjava/lang/Long;Ljava/lang/Long;Ljava/lang/Long;Ljava/lang/Long;)V", sig := { parameters := [.long, (.object "java/lang/Long"), (.object "java/lang/Long"), (.object "java/lang/Long"), (.object "java/lang/Long")], returnType := none }, accessFlags := 0, code := some k2c4 }
def k2c5 : Code := { maxStack := 4, maxLocals := 9, code := prog_27_method_6_code, exceptionTable := #[], attributes := #[] }
def k2m5 : Method := { name := "raiseFloor", desc := "(JLjava/lang/Long;Ljava/lang/Long;)V", sig := { parameters := [.long, (.object "java/lang/Long"), (.object "java/lang/Long")], returnType := none }, accessFlags := 2, code := some k2c5 }
/-- com/example/keyed_work_queue/keyedworkqueue/Pending -/
def k2 : Class := { plain "com/example/keyed_work_queue/keyedworkqueue/Pending" (some 0) with
  accessFlags := 32
  interfaces := #[]
  cf := some (fileOf pool2 12 #[] #[{ accessFlags := 0, nameIndex := 5, descriptorIndex := 6, attributes := #[] }, { accessFlags := 0, nameIndex := 15, descriptorIndex := 39, attributes := #[] }, { accessFlags := 0, nameIndex := 19, descriptorIndex := 39, attributes := #[] }, { accessFlags := 0, nameIndex := 42, descriptorIndex := 43, attributes := #[] }, { accessFlags := 0, nameIndex := 44, descriptorIndex := 45, attributes := #[] }, { accessFlags := 2, nameIndex := 34, descriptorIndex := 35, attributes := #[] }] 32 2 #[] #[{ accessFlags := 2, nameIndex := 15, descriptorIndex := 16, attributes := #[] }, { accessFlags := 2, nameIndex := 19, descriptorIndex := 16, attributes := #[] }, { accessFlags := 2, nameIndex := 26, descriptorIndex := 27, attributes := #[] }, { accessFlags := 2, nameIndex := 22, descriptorIndex := 23, attributes := #[] }])
  fields := #[{ name := "floorXact", type := .long, accessFlags := 2, slot := 0, constantValue := 0 }, { name := "floorSeq", type := .long, accessFlags := 2, slot := 1, constantValue := 0 }, { name := "joinedIn", type := (.object "java/lang/Long"), accessFlags := 2, slot := 2, constantValue := 0 }, { name := "seen", type := .boolean, accessFlags := 2, slot := 3, constantValue := 0 }]
  methods := #[k2m0, k2m1, k2m2, k2m3, k2m4, k2m5]
  instanceTypes := #[.long, .long, (.object "java/lang/Long"), .boolean]
  staticTypes := #[]
  resolved := Array.replicate 49 none
  statics := none }

def pool3 : Array CpInfo := pool [(1, .class_ 2), (0, u "java/io/Serializable"), (0, .class_ 4), (0, u "java/lang/Object")] 2

/-- java/io/Serializable -/
def k3 : Class := { plain "java/io/Serializable" (some 0) with
  accessFlags := 1537
  interfaces := #[]
  cf := some (fileOf pool3 1 #[] #[] 1537 3 #[] #[])
  fields := #[]
  methods := #[]
  instanceTypes := #[]
  staticTypes := #[]
  resolved := Array.replicate 7 none
  statics := none }

def pool4 : Array CpInfo := pool [(1, .methodref 2 3), (0, .class_ 4), (0, .nameAndType 5 6), (0, u "java/lang/Object"), (0, u "<init>"), (0, u "()V"), (1, .class_ 10), (1, u "java/lang/Number"), (2, .class_ 14), (0, u "java/io/Serializable"), (0, u "serialVersionUID"), (0, u "J")] 20

def k4c0 : Code := { maxStack := 1, maxLocals := 1, code := jdk_18_method_1_code, exceptionTable := #[], attributes := #[] }
def k4m0 : Method := { name := "<init>", desc := "()V", sig := { parameters := [], returnType := none }, accessFlags := 1, code := some k4c0 }
/-- java/lang/Number -/
def k4 : Class := { plain "java/lang/Number" (some 0) with
  accessFlags := 1057
  interfaces := #[3]
  cf := some (fileOf pool4 8 #[] #[{ accessFlags := 1, nameIndex := 5, descriptorIndex := 6, attributes := #[] }] 1057 2 #[13] #[{ accessFlags := 26, nameIndex := 15, descriptorIndex := 16, attributes := #[] }])
  fields := #[{ name := "serialVersionUID", type := .long, accessFlags := 26, slot := 0, constantValue := 0 }]
  methods := #[k4m0]
  instanceTypes := #[]
  staticTypes := #[.long]
  resolved := Array.replicate 37 none
  statics := none }

def pool5 : Array CpInfo := pool [(1, .class_ 2), (0, u "java/lang/Comparable"), (0, .class_ 4), (0, u "java/lang/Object")] 7

/-- java/lang/Comparable -/
def k5 : Class := { plain "java/lang/Comparable" (some 0) with
  accessFlags := 1537
  interfaces := #[]
  cf := some (fileOf pool5 1 #[] #[] 1537 3 #[] #[])
  fields := #[]
  methods := #[]
  instanceTypes := #[]
  staticTypes := #[]
  resolved := Array.replicate 12 none
  statics := none }

def pool6 : Array CpInfo := pool [(1, .class_ 2), (0, u "java/lang/constant/Constable"), (0, .class_ 4), (0, u "java/lang/Object")] 6

/-- java/lang/constant/Constable -/
def k6 : Class := { plain "java/lang/constant/Constable" (some 0) with
  accessFlags := 1537
  interfaces := #[]
  cf := some (fileOf pool6 1 #[] #[] 1537 3 #[] #[])
  fields := #[]
  methods := #[]
  instanceTypes := #[]
  staticTypes := #[]
  resolved := Array.replicate 11 none
  statics := none }

def pool7 : Array CpInfo := pool [(1, .class_ 2), (0, u "java/lang/constant/ConstantDesc"), (0, .class_ 4), (0, u "java/lang/Object")] 32

/-- java/lang/constant/ConstantDesc -/
def k7 : Class := { plain "java/lang/constant/ConstantDesc" (some 0) with
  accessFlags := 1537
  interfaces := #[]
  cf := some (fileOf pool7 1 #[] #[] 1537 3 #[] #[])
  fields := #[]
  methods := #[]
  instanceTypes := #[]
  staticTypes := #[]
  resolved := Array.replicate 37 none
  statics := none }

def pool8 : Array CpInfo := pool [(1, .class_ 2), (0, u "java/lang/Long"), (55, .nameAndType 59 60), (0, u "<init>"), (0, u "()V"), (24, u "valueOf"), (143, u "(J)Ljava/lang/Long;"), (0, .long 18446744073709551488), (1, .long 127), (1, .fieldref 235 236), (0, .class_ 237), (0, .nameAndType 238 239), (0, u "java/lang/Long$LongCache"), (0, u "cache"), (0, u "[Ljava/lang/Long;"), (0, .methodref 1 241), (0, .nameAndType 59 242), (0, u "(J)V"), (27, .methodref 271 58), (0, .class_ 272), (0, u "java/lang/Number"), (0, .fieldref 1 274), (0, .nameAndType 275 276), (0, u "value"), (0, u "J"), (3, .methodref 1 281), (0, .nameAndType 282 283), (0, u "longValue"), (0, u "()J"), (77, u "TYPE"), (0, u "Ljava/lang/Class;"), (0, .class_ 364), (0, u "java/lang/Comparable"), (0, .class_ 366), (0, u "java/lang/constant/Constable"), (0, .class_ 368), (0, u "java/lang/constant/ConstantDesc"), (0, u "MIN_VALUE"), (1, u "MAX_VALUE"), (4, u "SIZE"), (0, u "I"), (1, u "BYTES"), (1, u "serialVersionUID"), (77, u "equals"), (0, u "(Ljava/lang/Object;)Z")] 63

def k8c0 : Code := { maxStack := 4, maxLocals := 3, code := jdk_35_method_24_code, exceptionTable := #[], attributes := #[] }
def k8m0 : Method := { name := "valueOf", desc := "(J)Ljava/lang/Long;", sig := { parameters := [.long], returnType := some (.object "java/lang/Long") }, accessFlags := 9, code := some k8c0 }
def k8c1 : Code := { maxStack := 3, maxLocals := 3, code := jdk_35_method_26_code, exceptionTable := #[], attributes := #[] }
def k8m1 : Method := { name := "<init>", desc := "(J)V", sig := { parameters := [.long], returnType := none }, accessFlags := 1, code := some k8c1 }
def k8c2 : Code := { maxStack := 2, maxLocals := 1, code := jdk_35_method_31_code, exceptionTable := #[], attributes := #[] }
def k8m2 : Method := { name := "longValue", desc := "()J", sig := { parameters := [], returnType := some .long }, accessFlags := 1, code := some k8c2 }
def k8c3 : Code := { maxStack := 4, maxLocals := 2, code := jdk_35_method_37_code, exceptionTable := #[], attributes := #[] }
def k8m3 : Method := { name := "equals", desc := "(Ljava/lang/Object;)Z", sig := { parameters := [(.object "java/lang/Object")], returnType := some .boolean }, accessFlags := 1, code := some k8c3 }
/-- java/lang/Long -/
def k8 : Class := { plain "java/lang/Long" (some 4) with
  accessFlags := 49
  interfaces := #[5, 6, 7]
  cf := some (fileOf pool8 1 #[.nestMembers #[235]] #[{ accessFlags := 9, nameIndex := 85, descriptorIndex := 229, attributes := #[] }, { accessFlags := 1, nameIndex := 59, descriptorIndex := 242, attributes := #[] }, { accessFlags := 1, nameIndex := 282, descriptorIndex := 283, attributes := #[] }, { accessFlags := 1, nameIndex := 459, descriptorIndex := 460, attributes := #[] }] 49 271 #[363, 365, 367] #[{ accessFlags := 25, nameIndex := 369, descriptorIndex := 276, attributes := #[] }, { accessFlags := 25, nameIndex := 371, descriptorIndex := 276, attributes := #[] }, { accessFlags := 25, nameIndex := 361, descriptorIndex := 362, attributes := #[] }, { accessFlags := 18, nameIndex := 275, descriptorIndex := 276, attributes := #[] }, { accessFlags := 25, nameIndex := 376, descriptorIndex := 377, attributes := #[] }, { accessFlags := 25, nameIndex := 379, descriptorIndex := 377, attributes := #[] }, { accessFlags := 26, nameIndex := 381, descriptorIndex := 276, attributes := #[] }])
  fields := #[{ name := "MIN_VALUE", type := .long, accessFlags := 25, slot := 0, constantValue := 0 }, { name := "MAX_VALUE", type := .long, accessFlags := 25, slot := 1, constantValue := 0 }, { name := "TYPE", type := (.object "java/lang/Class"), accessFlags := 25, slot := 2, constantValue := 0 }, { name := "value", type := .long, accessFlags := 18, slot := 0, constantValue := 0 }, { name := "SIZE", type := .int, accessFlags := 25, slot := 3, constantValue := 0 }, { name := "BYTES", type := .int, accessFlags := 25, slot := 4, constantValue := 0 }, { name := "serialVersionUID", type := .long, accessFlags := 26, slot := 5, constantValue := 0 }]
  methods := #[k8m0, k8m1, k8m2, k8m3]
  instanceTypes := #[.long]
  staticTypes := #[.long, .long, (.object "java/lang/Class"), .int, .int, .long]
  resolved := Array.replicate 524 none
  statics := none }

def pool9 : Array CpInfo := pool [(2, .class_ 4), (1, u "java/lang/Object"), (0, u "<init>"), (0, u "()V"), (0, .class_ 8), (0, u "java/lang/Long"), (7, .class_ 18), (1, u "java/lang/Long$LongCache"), (0, u "$assertionsDisabled"), (0, u "Z"), (8, u "archivedCache"), (0, u "[Ljava/lang/Long;"), (7, u "cache")] 24

def k9m0 : Method := { name := "<init>", desc := "()V", sig := { parameters := [], returnType := none }, accessFlags := 2, code := none }
/-- java/lang/Long$LongCache -/
def k9 : Class := { plain "java/lang/Long$LongCache" (some 0) with
  accessFlags := 48
  interfaces := #[]
  cf := some (fileOf pool9 16 #[.nestHost 7] #[{ accessFlags := 2, nameIndex := 5, descriptorIndex := 6, attributes := #[] }] 48 2 #[] #[{ accessFlags := 24, nameIndex := 38, descriptorIndex := 30, attributes := #[] }, { accessFlags := 8, nameIndex := 29, descriptorIndex := 30, attributes := #[] }, { accessFlags := 4120, nameIndex := 19, descriptorIndex := 20, attributes := #[] }])
  fields := #[{ name := "cache", type := (.array (.object "java/lang/Long")), accessFlags := 24, slot := 0, constantValue := 0 }, { name := "archivedCache", type := (.array (.object "java/lang/Long")), accessFlags := 8, slot := 1, constantValue := 0 }, { name := "$assertionsDisabled", type := .boolean, accessFlags := 4120, slot := 2, constantValue := 0 }]
  methods := #[k9m0]
  instanceTypes := #[]
  staticTypes := #[(.array (.object "java/lang/Long")), (.array (.object "java/lang/Long")), .boolean]
  resolved := Array.replicate 63 none
  statics := some 0 }

def pool10 : Array CpInfo := pool [(1, u "java/lang/Cloneable"), (0, .class_ 1), (0, u "java/lang/Object"), (0, .class_ 3)] 3

/-- java/lang/Cloneable -/
def k10 : Class := { plain "java/lang/Cloneable" (some 0) with
  accessFlags := 1537
  interfaces := #[]
  cf := some (fileOf pool10 2 #[] #[] 1537 4 #[] #[])
  fields := #[]
  methods := #[]
  instanceTypes := #[]
  staticTypes := #[]
  resolved := Array.replicate 8 none
  statics := none }

/-- the primitive byte -/
def k11 : Class := { plain "byte" none with kind := .primitive 'B', accessFlags := 0x411 }
/-- [B -/
def k12 : Class := { plain "[B" (some 0) with kind := .array 11 .byte, interfaces := #[10, 3], accessFlags := 1041 }

/-- the primitive int -/
def k13 : Class := { plain "int" none with kind := .primitive 'I', accessFlags := 0x411 }
/-- [I -/
def k14 : Class := { plain "[I" (some 0) with kind := .array 13 .int, interfaces := #[10, 3], accessFlags := 1041 }

/-- the primitive long -/
def k15 : Class := { plain "long" none with kind := .primitive 'J', accessFlags := 0x411 }
/-- [J -/
def k16 : Class := { plain "[J" (some 0) with kind := .array 15 .long, interfaces := #[10, 3], accessFlags := 1041 }

/-- [Ljava/lang/Long; -/
def k17 : Class := { plain "[Ljava/lang/Long;" (some 0) with kind := .array 8 (.object "java/lang/Long"), interfaces := #[10, 3], accessFlags := 1041 }

def heap : Heap := #[{ cls := 9, slots := #[.ref 1, .null, .int 0], vm := .statics 9 },
  { cls := 17, slots := #[.ref 2, .ref 3, .ref 4, .ref 5, .ref 6, .ref 7, .ref 8, .ref 9, .ref 10, .ref 11, .ref 12, .ref 13, .ref 14, .ref 15, .ref 16, .ref 17, .ref 18, .ref 19, .ref 20, .ref 21, .ref 22, .ref 23, .ref 24, .ref 25, .ref 26, .ref 27, .ref 28, .ref 29, .ref 30, .ref 31, .ref 32, .ref 33, .ref 34, .ref 35, .ref 36, .ref 37, .ref 38, .ref 39, .ref 40, .ref 41, .ref 42, .ref 43, .ref 44, .ref 45, .ref 46, .ref 47, .ref 48, .ref 49, .ref 50, .ref 51, .ref 52, .ref 53, .ref 54, .ref 55, .ref 56, .ref 57, .ref 58, .ref 59, .ref 60, .ref 61, .ref 62, .ref 63, .ref 64, .ref 65, .ref 66, .ref 67, .ref 68, .ref 69, .ref 70, .ref 71, .ref 72, .ref 73, .ref 74, .ref 75, .ref 76, .ref 77, .ref 78, .ref 79, .ref 80, .ref 81, .ref 82, .ref 83, .ref 84, .ref 85, .ref 86, .ref 87, .ref 88, .ref 89, .ref 90, .ref 91, .ref 92, .ref 93, .ref 94, .ref 95, .ref 96, .ref 97, .ref 98, .ref 99, .ref 100, .ref 101, .ref 102, .ref 103, .ref 104, .ref 105, .ref 106, .ref 107, .ref 108, .ref 109, .ref 110, .ref 111, .ref 112, .ref 113, .ref 114, .ref 115, .ref 116, .ref 117, .ref 118, .ref 119, .ref 120, .ref 121, .ref 122, .ref 123, .ref 124, .ref 125, .ref 126, .ref 127, .ref 128, .ref 129, .ref 130, .ref 131, .ref 132, .ref 133, .ref 134, .ref 135, .ref 136, .ref 137, .ref 138, .ref 139, .ref 140, .ref 141, .ref 142, .ref 143, .ref 144, .ref 145, .ref 146, .ref 147, .ref 148, .ref 149, .ref 150, .ref 151, .ref 152, .ref 153, .ref 154, .ref 155, .ref 156, .ref 157, .ref 158, .ref 159, .ref 160, .ref 161, .ref 162, .ref 163, .ref 164, .ref 165, .ref 166, .ref 167, .ref 168, .ref 169, .ref 170, .ref 171, .ref 172, .ref 173, .ref 174, .ref 175, .ref 176, .ref 177, .ref 178, .ref 179, .ref 180, .ref 181, .ref 182, .ref 183, .ref 184, .ref 185, .ref 186, .ref 187, .ref 188, .ref 189, .ref 190, .ref 191, .ref 192, .ref 193, .ref 194, .ref 195, .ref 196, .ref 197, .ref 198, .ref 199, .ref 200, .ref 201, .ref 202, .ref 203, .ref 204, .ref 205, .ref 206, .ref 207, .ref 208, .ref 209, .ref 210, .ref 211, .ref 212, .ref 213, .ref 214, .ref 215, .ref 216, .ref 217, .ref 218, .ref 219, .ref 220, .ref 221, .ref 222, .ref 223, .ref 224, .ref 225, .ref 226, .ref 227, .ref 228, .ref 229, .ref 230, .ref 231, .ref 232, .ref 233, .ref 234, .ref 235, .ref 236, .ref 237, .ref 238, .ref 239, .ref 240, .ref 241, .ref 242, .ref 243, .ref 244, .ref 245, .ref 246, .ref 247, .ref 248, .ref 249, .ref 250, .ref 251, .ref 252, .ref 253, .ref 254, .ref 255, .ref 256, .ref 257], vm := .none },
  { cls := 8, slots := #[.long (-128)], vm := .none },
  { cls := 8, slots := #[.long (-127)], vm := .none },
  { cls := 8, slots := #[.long (-126)], vm := .none },
  { cls := 8, slots := #[.long (-125)], vm := .none },
  { cls := 8, slots := #[.long (-124)], vm := .none },
  { cls := 8, slots := #[.long (-123)], vm := .none },
  { cls := 8, slots := #[.long (-122)], vm := .none },
  { cls := 8, slots := #[.long (-121)], vm := .none },
  { cls := 8, slots := #[.long (-120)], vm := .none },
  { cls := 8, slots := #[.long (-119)], vm := .none },
  { cls := 8, slots := #[.long (-118)], vm := .none },
  { cls := 8, slots := #[.long (-117)], vm := .none },
  { cls := 8, slots := #[.long (-116)], vm := .none },
  { cls := 8, slots := #[.long (-115)], vm := .none },
  { cls := 8, slots := #[.long (-114)], vm := .none },
  { cls := 8, slots := #[.long (-113)], vm := .none },
  { cls := 8, slots := #[.long (-112)], vm := .none },
  { cls := 8, slots := #[.long (-111)], vm := .none },
  { cls := 8, slots := #[.long (-110)], vm := .none },
  { cls := 8, slots := #[.long (-109)], vm := .none },
  { cls := 8, slots := #[.long (-108)], vm := .none },
  { cls := 8, slots := #[.long (-107)], vm := .none },
  { cls := 8, slots := #[.long (-106)], vm := .none },
  { cls := 8, slots := #[.long (-105)], vm := .none },
  { cls := 8, slots := #[.long (-104)], vm := .none },
  { cls := 8, slots := #[.long (-103)], vm := .none },
  { cls := 8, slots := #[.long (-102)], vm := .none },
  { cls := 8, slots := #[.long (-101)], vm := .none },
  { cls := 8, slots := #[.long (-100)], vm := .none },
  { cls := 8, slots := #[.long (-99)], vm := .none },
  { cls := 8, slots := #[.long (-98)], vm := .none },
  { cls := 8, slots := #[.long (-97)], vm := .none },
  { cls := 8, slots := #[.long (-96)], vm := .none },
  { cls := 8, slots := #[.long (-95)], vm := .none },
  { cls := 8, slots := #[.long (-94)], vm := .none },
  { cls := 8, slots := #[.long (-93)], vm := .none },
  { cls := 8, slots := #[.long (-92)], vm := .none },
  { cls := 8, slots := #[.long (-91)], vm := .none },
  { cls := 8, slots := #[.long (-90)], vm := .none },
  { cls := 8, slots := #[.long (-89)], vm := .none },
  { cls := 8, slots := #[.long (-88)], vm := .none },
  { cls := 8, slots := #[.long (-87)], vm := .none },
  { cls := 8, slots := #[.long (-86)], vm := .none },
  { cls := 8, slots := #[.long (-85)], vm := .none },
  { cls := 8, slots := #[.long (-84)], vm := .none },
  { cls := 8, slots := #[.long (-83)], vm := .none },
  { cls := 8, slots := #[.long (-82)], vm := .none },
  { cls := 8, slots := #[.long (-81)], vm := .none },
  { cls := 8, slots := #[.long (-80)], vm := .none },
  { cls := 8, slots := #[.long (-79)], vm := .none },
  { cls := 8, slots := #[.long (-78)], vm := .none },
  { cls := 8, slots := #[.long (-77)], vm := .none },
  { cls := 8, slots := #[.long (-76)], vm := .none },
  { cls := 8, slots := #[.long (-75)], vm := .none },
  { cls := 8, slots := #[.long (-74)], vm := .none },
  { cls := 8, slots := #[.long (-73)], vm := .none },
  { cls := 8, slots := #[.long (-72)], vm := .none },
  { cls := 8, slots := #[.long (-71)], vm := .none },
  { cls := 8, slots := #[.long (-70)], vm := .none },
  { cls := 8, slots := #[.long (-69)], vm := .none },
  { cls := 8, slots := #[.long (-68)], vm := .none },
  { cls := 8, slots := #[.long (-67)], vm := .none },
  { cls := 8, slots := #[.long (-66)], vm := .none },
  { cls := 8, slots := #[.long (-65)], vm := .none },
  { cls := 8, slots := #[.long (-64)], vm := .none },
  { cls := 8, slots := #[.long (-63)], vm := .none },
  { cls := 8, slots := #[.long (-62)], vm := .none },
  { cls := 8, slots := #[.long (-61)], vm := .none },
  { cls := 8, slots := #[.long (-60)], vm := .none },
  { cls := 8, slots := #[.long (-59)], vm := .none },
  { cls := 8, slots := #[.long (-58)], vm := .none },
  { cls := 8, slots := #[.long (-57)], vm := .none },
  { cls := 8, slots := #[.long (-56)], vm := .none },
  { cls := 8, slots := #[.long (-55)], vm := .none },
  { cls := 8, slots := #[.long (-54)], vm := .none },
  { cls := 8, slots := #[.long (-53)], vm := .none },
  { cls := 8, slots := #[.long (-52)], vm := .none },
  { cls := 8, slots := #[.long (-51)], vm := .none },
  { cls := 8, slots := #[.long (-50)], vm := .none },
  { cls := 8, slots := #[.long (-49)], vm := .none },
  { cls := 8, slots := #[.long (-48)], vm := .none },
  { cls := 8, slots := #[.long (-47)], vm := .none },
  { cls := 8, slots := #[.long (-46)], vm := .none },
  { cls := 8, slots := #[.long (-45)], vm := .none },
  { cls := 8, slots := #[.long (-44)], vm := .none },
  { cls := 8, slots := #[.long (-43)], vm := .none },
  { cls := 8, slots := #[.long (-42)], vm := .none },
  { cls := 8, slots := #[.long (-41)], vm := .none },
  { cls := 8, slots := #[.long (-40)], vm := .none },
  { cls := 8, slots := #[.long (-39)], vm := .none },
  { cls := 8, slots := #[.long (-38)], vm := .none },
  { cls := 8, slots := #[.long (-37)], vm := .none },
  { cls := 8, slots := #[.long (-36)], vm := .none },
  { cls := 8, slots := #[.long (-35)], vm := .none },
  { cls := 8, slots := #[.long (-34)], vm := .none },
  { cls := 8, slots := #[.long (-33)], vm := .none },
  { cls := 8, slots := #[.long (-32)], vm := .none },
  { cls := 8, slots := #[.long (-31)], vm := .none },
  { cls := 8, slots := #[.long (-30)], vm := .none },
  { cls := 8, slots := #[.long (-29)], vm := .none },
  { cls := 8, slots := #[.long (-28)], vm := .none },
  { cls := 8, slots := #[.long (-27)], vm := .none },
  { cls := 8, slots := #[.long (-26)], vm := .none },
  { cls := 8, slots := #[.long (-25)], vm := .none },
  { cls := 8, slots := #[.long (-24)], vm := .none },
  { cls := 8, slots := #[.long (-23)], vm := .none },
  { cls := 8, slots := #[.long (-22)], vm := .none },
  { cls := 8, slots := #[.long (-21)], vm := .none },
  { cls := 8, slots := #[.long (-20)], vm := .none },
  { cls := 8, slots := #[.long (-19)], vm := .none },
  { cls := 8, slots := #[.long (-18)], vm := .none },
  { cls := 8, slots := #[.long (-17)], vm := .none },
  { cls := 8, slots := #[.long (-16)], vm := .none },
  { cls := 8, slots := #[.long (-15)], vm := .none },
  { cls := 8, slots := #[.long (-14)], vm := .none },
  { cls := 8, slots := #[.long (-13)], vm := .none },
  { cls := 8, slots := #[.long (-12)], vm := .none },
  { cls := 8, slots := #[.long (-11)], vm := .none },
  { cls := 8, slots := #[.long (-10)], vm := .none },
  { cls := 8, slots := #[.long (-9)], vm := .none },
  { cls := 8, slots := #[.long (-8)], vm := .none },
  { cls := 8, slots := #[.long (-7)], vm := .none },
  { cls := 8, slots := #[.long (-6)], vm := .none },
  { cls := 8, slots := #[.long (-5)], vm := .none },
  { cls := 8, slots := #[.long (-4)], vm := .none },
  { cls := 8, slots := #[.long (-3)], vm := .none },
  { cls := 8, slots := #[.long (-2)], vm := .none },
  { cls := 8, slots := #[.long (-1)], vm := .none },
  { cls := 8, slots := #[.long (0)], vm := .none },
  { cls := 8, slots := #[.long (1)], vm := .none },
  { cls := 8, slots := #[.long (2)], vm := .none },
  { cls := 8, slots := #[.long (3)], vm := .none },
  { cls := 8, slots := #[.long (4)], vm := .none },
  { cls := 8, slots := #[.long (5)], vm := .none },
  { cls := 8, slots := #[.long (6)], vm := .none },
  { cls := 8, slots := #[.long (7)], vm := .none },
  { cls := 8, slots := #[.long (8)], vm := .none },
  { cls := 8, slots := #[.long (9)], vm := .none },
  { cls := 8, slots := #[.long (10)], vm := .none },
  { cls := 8, slots := #[.long (11)], vm := .none },
  { cls := 8, slots := #[.long (12)], vm := .none },
  { cls := 8, slots := #[.long (13)], vm := .none },
  { cls := 8, slots := #[.long (14)], vm := .none },
  { cls := 8, slots := #[.long (15)], vm := .none },
  { cls := 8, slots := #[.long (16)], vm := .none },
  { cls := 8, slots := #[.long (17)], vm := .none },
  { cls := 8, slots := #[.long (18)], vm := .none },
  { cls := 8, slots := #[.long (19)], vm := .none },
  { cls := 8, slots := #[.long (20)], vm := .none },
  { cls := 8, slots := #[.long (21)], vm := .none },
  { cls := 8, slots := #[.long (22)], vm := .none },
  { cls := 8, slots := #[.long (23)], vm := .none },
  { cls := 8, slots := #[.long (24)], vm := .none },
  { cls := 8, slots := #[.long (25)], vm := .none },
  { cls := 8, slots := #[.long (26)], vm := .none },
  { cls := 8, slots := #[.long (27)], vm := .none },
  { cls := 8, slots := #[.long (28)], vm := .none },
  { cls := 8, slots := #[.long (29)], vm := .none },
  { cls := 8, slots := #[.long (30)], vm := .none },
  { cls := 8, slots := #[.long (31)], vm := .none },
  { cls := 8, slots := #[.long (32)], vm := .none },
  { cls := 8, slots := #[.long (33)], vm := .none },
  { cls := 8, slots := #[.long (34)], vm := .none },
  { cls := 8, slots := #[.long (35)], vm := .none },
  { cls := 8, slots := #[.long (36)], vm := .none },
  { cls := 8, slots := #[.long (37)], vm := .none },
  { cls := 8, slots := #[.long (38)], vm := .none },
  { cls := 8, slots := #[.long (39)], vm := .none },
  { cls := 8, slots := #[.long (40)], vm := .none },
  { cls := 8, slots := #[.long (41)], vm := .none },
  { cls := 8, slots := #[.long (42)], vm := .none },
  { cls := 8, slots := #[.long (43)], vm := .none },
  { cls := 8, slots := #[.long (44)], vm := .none },
  { cls := 8, slots := #[.long (45)], vm := .none },
  { cls := 8, slots := #[.long (46)], vm := .none },
  { cls := 8, slots := #[.long (47)], vm := .none },
  { cls := 8, slots := #[.long (48)], vm := .none },
  { cls := 8, slots := #[.long (49)], vm := .none },
  { cls := 8, slots := #[.long (50)], vm := .none },
  { cls := 8, slots := #[.long (51)], vm := .none },
  { cls := 8, slots := #[.long (52)], vm := .none },
  { cls := 8, slots := #[.long (53)], vm := .none },
  { cls := 8, slots := #[.long (54)], vm := .none },
  { cls := 8, slots := #[.long (55)], vm := .none },
  { cls := 8, slots := #[.long (56)], vm := .none },
  { cls := 8, slots := #[.long (57)], vm := .none },
  { cls := 8, slots := #[.long (58)], vm := .none },
  { cls := 8, slots := #[.long (59)], vm := .none },
  { cls := 8, slots := #[.long (60)], vm := .none },
  { cls := 8, slots := #[.long (61)], vm := .none },
  { cls := 8, slots := #[.long (62)], vm := .none },
  { cls := 8, slots := #[.long (63)], vm := .none },
  { cls := 8, slots := #[.long (64)], vm := .none },
  { cls := 8, slots := #[.long (65)], vm := .none },
  { cls := 8, slots := #[.long (66)], vm := .none },
  { cls := 8, slots := #[.long (67)], vm := .none },
  { cls := 8, slots := #[.long (68)], vm := .none },
  { cls := 8, slots := #[.long (69)], vm := .none },
  { cls := 8, slots := #[.long (70)], vm := .none },
  { cls := 8, slots := #[.long (71)], vm := .none },
  { cls := 8, slots := #[.long (72)], vm := .none },
  { cls := 8, slots := #[.long (73)], vm := .none },
  { cls := 8, slots := #[.long (74)], vm := .none },
  { cls := 8, slots := #[.long (75)], vm := .none },
  { cls := 8, slots := #[.long (76)], vm := .none },
  { cls := 8, slots := #[.long (77)], vm := .none },
  { cls := 8, slots := #[.long (78)], vm := .none },
  { cls := 8, slots := #[.long (79)], vm := .none },
  { cls := 8, slots := #[.long (80)], vm := .none },
  { cls := 8, slots := #[.long (81)], vm := .none },
  { cls := 8, slots := #[.long (82)], vm := .none },
  { cls := 8, slots := #[.long (83)], vm := .none },
  { cls := 8, slots := #[.long (84)], vm := .none },
  { cls := 8, slots := #[.long (85)], vm := .none },
  { cls := 8, slots := #[.long (86)], vm := .none },
  { cls := 8, slots := #[.long (87)], vm := .none },
  { cls := 8, slots := #[.long (88)], vm := .none },
  { cls := 8, slots := #[.long (89)], vm := .none },
  { cls := 8, slots := #[.long (90)], vm := .none },
  { cls := 8, slots := #[.long (91)], vm := .none },
  { cls := 8, slots := #[.long (92)], vm := .none },
  { cls := 8, slots := #[.long (93)], vm := .none },
  { cls := 8, slots := #[.long (94)], vm := .none },
  { cls := 8, slots := #[.long (95)], vm := .none },
  { cls := 8, slots := #[.long (96)], vm := .none },
  { cls := 8, slots := #[.long (97)], vm := .none },
  { cls := 8, slots := #[.long (98)], vm := .none },
  { cls := 8, slots := #[.long (99)], vm := .none },
  { cls := 8, slots := #[.long (100)], vm := .none },
  { cls := 8, slots := #[.long (101)], vm := .none },
  { cls := 8, slots := #[.long (102)], vm := .none },
  { cls := 8, slots := #[.long (103)], vm := .none },
  { cls := 8, slots := #[.long (104)], vm := .none },
  { cls := 8, slots := #[.long (105)], vm := .none },
  { cls := 8, slots := #[.long (106)], vm := .none },
  { cls := 8, slots := #[.long (107)], vm := .none },
  { cls := 8, slots := #[.long (108)], vm := .none },
  { cls := 8, slots := #[.long (109)], vm := .none },
  { cls := 8, slots := #[.long (110)], vm := .none },
  { cls := 8, slots := #[.long (111)], vm := .none },
  { cls := 8, slots := #[.long (112)], vm := .none },
  { cls := 8, slots := #[.long (113)], vm := .none },
  { cls := 8, slots := #[.long (114)], vm := .none },
  { cls := 8, slots := #[.long (115)], vm := .none },
  { cls := 8, slots := #[.long (116)], vm := .none },
  { cls := 8, slots := #[.long (117)], vm := .none },
  { cls := 8, slots := #[.long (118)], vm := .none },
  { cls := 8, slots := #[.long (119)], vm := .none },
  { cls := 8, slots := #[.long (120)], vm := .none },
  { cls := 8, slots := #[.long (121)], vm := .none },
  { cls := 8, slots := #[.long (122)], vm := .none },
  { cls := 8, slots := #[.long (123)], vm := .none },
  { cls := 8, slots := #[.long (124)], vm := .none },
  { cls := 8, slots := #[.long (125)], vm := .none },
  { cls := 8, slots := #[.long (126)], vm := .none },
  { cls := 8, slots := #[.long (127)], vm := .none }]
def classes : Array Class := #[k0, k1, k2, k3, k4, k5, k6, k7, k8, k9, k10, k11, k12, k13, k14, k15, k16, k17]
def interned : List (Array UInt16 × Addr) := []
def slotsUsed : Nat := 515
def theMethod : MethodId := ⟨1, 1⟩
def args0 : Array Value := #[.long 5, .long 3, .long 4, .long 7, .int 1, .int 2]
def aboutOver (below : List Frame) : State where
  vm := { classes := classes, interned := interned.toArray }
  heap := heap
  slotsUsed := slotsUsed
  threads := #[{ frames := .invoking theMethod args0 :: below }]
def below0 : List Frame := [.native { method := ⟨0, 0⟩, args := #[] }]
def about1 : State := aboutOver below0
def p0 : Program := .bare "" "" ""
def e0 : Env := launch0.env 0 0 0
theorem w_frames : about1.frames = Frame.invoking theMethod args0 :: below0 := rfl
set_option maxRecDepth 65536 in
theorem w_args : argsFit about1.vm theMethod args0 = true := by decide +kernel
set_option maxRecDepth 65536 in
theorem w_heap : heapFits about1 = true := by decide +kernel
set_option maxRecDepth 65536 in
theorem w_runnable : about1.curStatus? = some .runnable := by decide +kernel
set_option maxRecDepth 65536 in
theorem w_alone : about1.alone = true := by decide +kernel
set_option maxRecDepth 65536 in
theorem w_named : about1.methodNamed? x = some theMethod := by decide +kernel
set_option maxRecDepth 65536 in
theorem w_hears : about1.hears theMethod below0 = true := by decide +kernel
set_option maxRecDepth 65536 in
theorem w_ripe : about1.ripe theMethod args0 below0 = true := by decide +kernel
theorem w_running : about1.status = .running := rfl
set_option maxRecDepth 65536 in
theorem w_room : about1.hasRoom e0.platform room_1 = true :=
  launch0.hasRoom_least _ room_1 (by decide +kernel) (by decide +kernel) (by decide +kernel) (by decide +kernel) (by decide +kernel) (by decide +kernel)
theorem allAtoms_all (ts : List Jvm.Cond) (a : Array Jvm.Value) (st : Jvm.State) : (allAtoms ts).before a st = ts.all (fun c => c.before a st) := by
  induction ts with
  | nil => rfl
  | cons c t ih =>
    show (Jvm.Cond.and c (allAtoms t)).before a st = _
    rw [Jvm.Cond.before_and, ih, List.all_cons]
def words1 : List Jvm.Cond := Jvm.Cond.code x code maxLocals ret :: tables_1
/-- a 'code' word, met by the world's own term for the bytes: nothing is compared byte by byte -/
theorem code_word {y : MethodName} {bytes : ByteArray} {mx : Nat} {rt : Option FieldType} {a : Array Value} {s : State} {m : MethodId} {meth : Method} {c : Code} (h1 : s.methodNamed? y = some m) (h2 : s.vm.method? m = some meth) (h3 : meth.code = some c) (h4 : c.code = bytes)
    (h5 : (c.maxLocals == mx && c.exceptionTable.isEmpty && decide (c.maxStack ≤ mostOperands) && decide (meth.sig.returnType = rt) && !meth.locks && decide (parseMethodDescriptor y.desc = some meth.sig)) = true) : (Jvm.Cond.code y bytes mx rt).before a s = true := by
  simp only [Bool.and_eq_true, beq_iff_eq, Bool.not_eq_true', decide_eq_true_eq] at h5
  obtain ⟨⟨⟨⟨⟨g1, g2⟩, g3⟩, g4⟩, g5⟩, g6⟩ := h5
  simp [Cond.before, Cond.holds, Cond.value, h1, h2, h3, h4, g1, g2, g3, g4, g5, g6]
def isCode : Jvm.Cond → Bool
  | .code _ _ _ _ => true
  | _ => false
theorem all_split {L : List Jvm.Cond} {P : Jvm.Cond → Bool} (h1 : L.all (fun c => isCode c || P c) = true) (h2 : ∀ c ∈ L.filter isCode, P c = true) : L.all P = true := by
  refine List.all_eq_true.mpr fun c hc => ?_
  have h := List.all_eq_true.mp h1 c hc
  rcases Bool.eq_false_or_eq_true (isCode c) with hi | hi
  · exact h2 c (List.mem_filter.mpr ⟨hc, hi⟩)
  · simpa [hi] using h
set_option maxRecDepth 65536 in
theorem w_c0 : (Jvm.Cond.code x code maxLocals ret).before args0 about1 = true := code_word (m := ⟨1, 1⟩) (meth := k1m1) (c := k1c1) (by decide +kernel) rfl rfl rfl (by decide +kernel)
set_option maxRecDepth 65536 in
theorem w_c1 : (Jvm.Cond.code ({ cls := "com/example/keyed_work_queue/keyedworkqueue/Pending", name := "<init>", desc := "()V" } : Jvm.MethodName) prog_27_method_1_code (1 : Nat) (Option.none : Option Jvm.ClassFile.FieldType)).before args0 about1 = true := code_word (m := ⟨2, 0⟩) (meth := k2m0) (c := k2c0) (by decide +kernel) rfl rfl rfl (by decide +kernel)
set_option maxRecDepth 65536 in
theorem w_c2 : (Jvm.Cond.code ({ cls := "java/lang/Object", name := "<init>", desc := "()V" } : Jvm.MethodName) object_method_1_code (1 : Nat) (Option.none : Option Jvm.ClassFile.FieldType)).before args0 about1 = true := code_word (m := ⟨0, 0⟩) (meth := k0m0) (c := k0c0) (by decide +kernel) rfl rfl rfl (by decide +kernel)
set_option maxRecDepth 65536 in
theorem w_c3 : (Jvm.Cond.code ({ cls := "com/example/keyed_work_queue/keyedworkqueue/PendingFoundPinLaw", name := "step", desc := "(Lcom/example/keyed_work_queue/keyedworkqueue/Pending;[JJJJII)Z" } : Jvm.MethodName) method_4_code (29 : Nat) (Option.some Jvm.ClassFile.FieldType.boolean)).before args0 about1 = true := code_word (m := ⟨1, 3⟩) (meth := k1m3) (c := k1c3) (by decide +kernel) rfl rfl rfl (by decide +kernel)
set_option maxRecDepth 65536 in
theorem w_c4 : (Jvm.Cond.code ({ cls := "java/lang/Long", name := "valueOf", desc := "(J)Ljava/lang/Long;" } : Jvm.MethodName) jdk_35_method_24_code (3 : Nat) (Option.some (Jvm.ClassFile.FieldType.object "java/lang/Long"))).before args0 about1 = true := code_word (m := ⟨8, 0⟩) (meth := k8m0) (c := k8c0) (by decide +kernel) rfl rfl rfl (by decide +kernel)
set_option maxRecDepth 65536 in
theorem w_c5 : (Jvm.Cond.code ({ cls := "java/lang/Long", name := "<init>", desc := "(J)V" } : Jvm.MethodName) jdk_35_method_26_code (3 : Nat) (Option.none : Option Jvm.ClassFile.FieldType)).before args0 about1 = true := code_word (m := ⟨8, 1⟩) (meth := k8m1) (c := k8c1) (by decide +kernel) rfl rfl rfl (by decide +kernel)
set_option maxRecDepth 65536 in
theorem w_c6 : (Jvm.Cond.code ({ cls := "java/lang/Number", name := "<init>", desc := "()V" } : Jvm.MethodName) jdk_18_method_1_code (1 : Nat) (Option.none : Option Jvm.ClassFile.FieldType)).before args0 about1 = true := code_word (m := ⟨4, 0⟩) (meth := k4m0) (c := k4c0) (by decide +kernel) rfl rfl rfl (by decide +kernel)
set_option maxRecDepth 65536 in
theorem w_c7 : (Jvm.Cond.code ({ cls := "com/example/keyed_work_queue/keyedworkqueue/Pending", name := "found", desc := "(JLjava/lang/Long;Ljava/lang/Long;Ljava/lang/Long;Ljava/lang/Long;)V" } : Jvm.MethodName) prog_27_method_5_code (9 : Nat) (Option.none : Option Jvm.ClassFile.FieldType)).before args0 about1 = true := code_word (m := ⟨2, 4⟩) (meth := k2m4) (c := k2c4) (by decide +kernel) rfl rfl rfl (by decide +kernel)
set_option maxRecDepth 65536 in
theorem w_c8 : (Jvm.Cond.code ({ cls := "com/example/keyed_work_queue/keyedworkqueue/Pending", name := "raiseFloor", desc := "(JLjava/lang/Long;Ljava/lang/Long;)V" } : Jvm.MethodName) prog_27_method_6_code (9 : Nat) (Option.none : Option Jvm.ClassFile.FieldType)).before args0 about1 = true := code_word (m := ⟨2, 5⟩) (meth := k2m5) (c := k2c5) (by decide +kernel) rfl rfl rfl (by decide +kernel)
set_option maxRecDepth 65536 in
theorem w_c9 : (Jvm.Cond.code ({ cls := "java/lang/Long", name := "longValue", desc := "()J" } : Jvm.MethodName) jdk_35_method_31_code (1 : Nat) (Option.some Jvm.ClassFile.FieldType.long)).before args0 about1 = true := code_word (m := ⟨8, 2⟩) (meth := k8m2) (c := k8c2) (by decide +kernel) rfl rfl rfl (by decide +kernel)
set_option maxRecDepth 65536 in
theorem w_c10 : (Jvm.Cond.code ({ cls := "com/example/keyed_work_queue/keyedworkqueue/PendingFoundPinLaw", name := "lexLess", desc := "(JJJJ)Z" } : Jvm.MethodName) method_3_code (8 : Nat) (Option.some Jvm.ClassFile.FieldType.boolean)).before args0 about1 = true := code_word (m := ⟨1, 2⟩) (meth := k1m2) (c := k1c2) (by decide +kernel) rfl rfl rfl (by decide +kernel)
set_option maxRecDepth 65536 in
theorem w_c11 : (Jvm.Cond.code ({ cls := "com/example/keyed_work_queue/keyedworkqueue/Pending", name := "floorXact", desc := "()J" } : Jvm.MethodName) prog_27_method_2_code (1 : Nat) (Option.some Jvm.ClassFile.FieldType.long)).before args0 about1 = true := code_word (m := ⟨2, 1⟩) (meth := k2m1) (c := k2c1) (by decide +kernel) rfl rfl rfl (by decide +kernel)
set_option maxRecDepth 65536 in
theorem w_c12 : (Jvm.Cond.code ({ cls := "com/example/keyed_work_queue/keyedworkqueue/Pending", name := "floorSeq", desc := "()J" } : Jvm.MethodName) prog_27_method_3_code (1 : Nat) (Option.some Jvm.ClassFile.FieldType.long)).before args0 about1 = true := code_word (m := ⟨2, 2⟩) (meth := k2m2) (c := k2c2) (by decide +kernel) rfl rfl rfl (by decide +kernel)
set_option maxRecDepth 65536 in
theorem w_c13 : (Jvm.Cond.code ({ cls := "com/example/keyed_work_queue/keyedworkqueue/Pending", name := "mayHaveJobs", desc := "()Z" } : Jvm.MethodName) prog_27_method_4_code (1 : Nat) (Option.some Jvm.ClassFile.FieldType.boolean)).before args0 about1 = true := code_word (m := ⟨2, 3⟩) (meth := k2m3) (c := k2c3) (by decide +kernel) rfl rfl rfl (by decide +kernel)
set_option maxRecDepth 65536 in
theorem w_c14 : (Jvm.Cond.code ({ cls := "java/lang/Long", name := "equals", desc := "(Ljava/lang/Object;)Z" } : Jvm.MethodName) jdk_35_method_37_code (2 : Nat) (Option.some Jvm.ClassFile.FieldType.boolean)).before args0 about1 = true := code_word (m := ⟨8, 3⟩) (meth := k8m3) (c := k8c3) (by decide +kernel) rfl rfl rfl (by decide +kernel)
def codes1 : List Jvm.Cond := [Jvm.Cond.code x code maxLocals ret, Jvm.Cond.code ({ cls := "com/example/keyed_work_queue/keyedworkqueue/Pending", name := "<init>", desc := "()V" } : Jvm.MethodName) prog_27_method_1_code (1 : Nat) (Option.none : Option Jvm.ClassFile.FieldType), Jvm.Cond.code ({ cls := "java/lang/Object", name := "<init>", desc := "()V" } : Jvm.MethodName) object_method_1_code (1 : Nat) (Option.none : Option Jvm.ClassFile.FieldType), Jvm.Cond.code ({ cls := "com/example/keyed_work_queue/keyedworkqueue/PendingFoundPinLaw", name := "step", desc := "(Lcom/example/keyed_work_queue/keyedworkqueue/Pending;[JJJJII)Z" } : Jvm.MethodName) method_4_code (29 : Nat) (Option.some Jvm.ClassFile.FieldType.boolean), Jvm.Cond.code ({ cls := "java/lang/Long", name := "valueOf", desc := "(J)Ljava/lang/Long;" } : Jvm.MethodName) jdk_35_method_24_code (3 : Nat) (Option.some (Jvm.ClassFile.FieldType.object "java/lang/Long")), Jvm.Cond.code ({ cls := "java/lang/Long", name := "<init>", desc := "(J)V" } : Jvm.MethodName) jdk_35_method_26_code (3 : Nat) (Option.none : Option Jvm.ClassFile.FieldType), Jvm.Cond.code ({ cls := "java/lang/Number", name := "<init>", desc := "()V" } : Jvm.MethodName) jdk_18_method_1_code (1 : Nat) (Option.none : Option Jvm.ClassFile.FieldType), Jvm.Cond.code ({ cls := "com/example/keyed_work_queue/keyedworkqueue/Pending", name := "found", desc := "(JLjava/lang/Long;Ljava/lang/Long;Ljava/lang/Long;Ljava/lang/Long;)V" } : Jvm.MethodName) prog_27_method_5_code (9 : Nat) (Option.none : Option Jvm.ClassFile.FieldType), Jvm.Cond.code ({ cls := "com/example/keyed_work_queue/keyedworkqueue/Pending", name := "raiseFloor", desc := "(JLjava/lang/Long;Ljava/lang/Long;)V" } : Jvm.MethodName) prog_27_method_6_code (9 : Nat) (Option.none : Option Jvm.ClassFile.FieldType), Jvm.Cond.code ({ cls := "java/lang/Long", name := "longValue", desc := "()J" } : Jvm.MethodName) jdk_35_method_31_code (1 : Nat) (Option.some Jvm.ClassFile.FieldType.long), Jvm.Cond.code ({ cls := "com/example/keyed_work_queue/keyedworkqueue/PendingFoundPinLaw", name := "lexLess", desc := "(JJJJ)Z" } : Jvm.MethodName) method_3_code (8 : Nat) (Option.some Jvm.ClassFile.FieldType.boolean), Jvm.Cond.code ({ cls := "com/example/keyed_work_queue/keyedworkqueue/Pending", name := "floorXact", desc := "()J" } : Jvm.MethodName) prog_27_method_2_code (1 : Nat) (Option.some Jvm.ClassFile.FieldType.long), Jvm.Cond.code ({ cls := "com/example/keyed_work_queue/keyedworkqueue/Pending", name := "floorSeq", desc := "()J" } : Jvm.MethodName) prog_27_method_3_code (1 : Nat) (Option.some Jvm.ClassFile.FieldType.long), Jvm.Cond.code ({ cls := "com/example/keyed_work_queue/keyedworkqueue/Pending", name := "mayHaveJobs", desc := "()Z" } : Jvm.MethodName) prog_27_method_4_code (1 : Nat) (Option.some Jvm.ClassFile.FieldType.boolean), Jvm.Cond.code ({ cls := "java/lang/Long", name := "equals", desc := "(Ljava/lang/Object;)Z" } : Jvm.MethodName) jdk_35_method_37_code (2 : Nat) (Option.some Jvm.ClassFile.FieldType.boolean)]
set_option maxRecDepth 65536 in
theorem codes_eq : words1.filter isCode = codes1 := rfl
theorem w_codes : ∀ c ∈ words1.filter isCode, c.before args0 about1 = true := by
  rw [codes_eq]
  intro c hc
  simp only [codes1, List.mem_cons, List.not_mem_nil, or_false] at hc
  rcases hc with rfl | rfl | rfl | rfl | rfl | rfl | rfl | rfl | rfl | rfl | rfl | rfl | rfl | rfl | rfl
  · exact w_c0
  · exact w_c1
  · exact w_c2
  · exact w_c3
  · exact w_c4
  · exact w_c5
  · exact w_c6
  · exact w_c7
  · exact w_c8
  · exact w_c9
  · exact w_c10
  · exact w_c11
  · exact w_c12
  · exact w_c13
  · exact w_c14
set_option maxRecDepth 65536 in
theorem w_t1 : (words1.take 24).all (fun c => isCode c || c.before args0 about1) = true := by decide +kernel
set_option maxRecDepth 65536 in
theorem w_t2 : ((words1.drop 24).take 24).all (fun c => isCode c || c.before args0 about1) = true := by decide +kernel
set_option maxRecDepth 65536 in
theorem w_t3 : (((words1.drop 24).drop 24).take 24).all (fun c => isCode c || c.before args0 about1) = true := by decide +kernel
set_option maxRecDepth 65536 in
theorem w_t4 : (((words1.drop 24).drop 24).drop 24).all (fun c => isCode c || c.before args0 about1) = true := by decide +kernel
theorem w_tables : (allAtoms (Jvm.Cond.code x code maxLocals ret :: tables_1)).before args0 about1 = true := by
  rw [allAtoms_all]
  show words1.all (fun c => c.before args0 about1) = true
  refine all_split ?_ w_codes
  rw [← List.take_append_drop 24 words1, List.all_append, w_t1, ← List.take_append_drop 24 (words1.drop 24), List.all_append, w_t2, ← List.take_append_drop 24 ((words1.drop 24).drop 24), List.all_append, w_t3, w_t4]
  rfl
set_option maxRecDepth 65536 in
theorem w_rest : rest_1_c.before args0 about1 = true := by decide +kernel
set_option maxRecDepth 65536 in
theorem w_case : (Jvm.Cond.and given_1 narrow_1).before args0 about1 = true := by decide +kernel
theorem w_applies : (headSpec (Jvm.Cond.code x code maxLocals ret :: tables_1) room_1).applies x e0.platform about1 = true :=
  (Spec.applies_iff w_frames).mpr ⟨w_running, w_runnable, w_alone, w_named, w_hears, w_ripe, w_room, w_tables⟩
theorem atStart : AtStart classFile x code maxLocals ret World_1 tables_1 room_1 Calls_1 rest_1 Pre_1 launch0 p0 e0 about1 theMethod args0 below0 :=
  ⟨lists_1, trivial, launch0.admits_env _ _ _, launch0.least_env, fairChoices_fair.cas, fairChoices_fair.clock, w_frames, w_args, w_heap, w_applies, trivial, w_rest, w_case⟩
end start1
theorem witness_1 : WitnessClaimed_1 := ⟨start1.p0, start1.e0, start1.about1, start1.theMethod, start1.args0, start1.below0, start1.atStart⟩
end Jvm.Pilot.@@N@@
