import JvmDerived
import JvmDerived.Pilot.@@N@@Statement
import JvmDerived.Pilot.@@N@@Code
set_option linter.unusedVariables false
set_option linter.unusedSimpArgs false
namespace Jvm.RoadKit
open Sem ClassFile Op Lib Jvm.Stand Jvm.Free Jvm.LawKit
section New
variable {p : Program} {l : Launch} {e : Env} {R : Room} {s : State} {m : MethodId} {args : Array Value} {below : List Frame} {meth : Method} {c : Code} {T : State} {locs : List Loc} {cells slots : Nat}
theorem retI (X : Stand p l e R s m args below meth c T locs cells slots) (hx : p.tables.exec = Jvm.exec) {pc : Nat} {Ls : Array Slot} {z : Int32} {rest : List Value} (hret : meth.sig.returnType = some .int) (hd : decode c.code pc = .ok (.ireturn, 1)) {fs : List Frame}
    (hl : ∀ (f : JFrame) (acts : List Action), f.method = m → f.locked = none → f.entered = [] → (doReturn e (T.setTop f) acts (some (.int z))).1 = T.setFrames fs) : Steps p.tables e below (T.setTop (mkF m pc Ls (.int z :: rest))) (T.setFrames fs) :=
  retOut X hx hret rfl (Or.inl ⟨rfl, Or.inl rfl, z, rfl⟩) hd hl
end New
end Jvm.RoadKit
namespace Jvm.Pilot.@@N@@
open Jvm Jvm.ClassFile Sem Op Lib Jvm.Free Jvm.Stand Jvm.LawKit Jvm.RoadKit Bundle Jvm.Pilot.@@N@@.Jvm.D
theorem own_selpriv {s : State} {args : Array Value} {y : MethodName} {n : Nat} (hins : (Jvm.Cond.instantiable y.cls n).before args s = true) (hpriv : (Jvm.Cond.privateMethod y).before args s = true) (hinst : (Jvm.Cond.instanceMethod y).before args s = true) (hy : y.cls ≠ "java/lang/invoke/MethodHandle" ∧ y.cls ≠ "java/lang/invoke/VarHandle") :
    (Jvm.Cond.selects y.cls y y).before args s = true := by
  obtain ⟨c, k, hc, hk, -, hniab, -, -⟩ := Cond.instantiable_spec hins
  have hni : k.isInterface = false := (Bool.or_eq_false_iff.mp hniab).1
  obtain ⟨mk, methM, hnamed, hmethM, -, -⟩ := Cond.instanceMethod_spec hinst
  have hfound : s.methodFound? y.cls y.name y.desc = some mk := State.methodFound?_of_named hnamed hy
  have hcls : mk.cls = c := Option.some.inj ((findClass_of_methodNamed hnamed).symm.trans hc)
  have hsel : selectMethod {} s.vm c mk = .method mk := selectMethod_private hmethM (Cond.privateMethod_at hpriv mk methM hnamed hmethM)
  simp only [Cond.before, Cond.holds, Cond.value, hc, hfound, hnamed, hsel, hcls, hk]
  simp; exact hni
theorem own_nsE {Z : State} {h : Heap} {a : Addr} {C : String} (F : Exa Z h a C) : ∀ c : Cell, h[a]? = some c → c.vm.isStatics = false := by
  obtain ⟨c, k, h1, -, -, h4, -⟩ := F
  intro c' hc; cases h1.symm.trans hc; exact h4
theorem own_nsV {Z : State} {h : Heap} {a : Addr} {k : ClassId} {ty : FieldType} {z : Int32} {vs : List Value} {dv : Value} (F : Arv Z h a k ty z vs dv) : ∀ c : Cell, h[a]? = some c → c.vm.isStatics = false := by
  obtain ⟨c, A, -⟩ := F
  intro c' hc; cases A.1.symm.trans hc; exact A.plain
theorem own_stakeep {Z : State} {h h' : Heap} {C n d : String} {v : Value} {ws : List Addr} (F : Sta Z h C n d v) (K : Keep h h' ws) (q : ∀ x ∈ ws, ∀ c : Cell, h[x]? = some c → c.vm.isStatics = false) : Sta Z h' C n d v := by
  obtain ⟨cf, i, k, f, st, cell, h1, h2, h3, h4, h5, h6, h7⟩ := F
  refine ⟨cf, i, k, f, st, cell, h1, h2, h3, h4, K.2.1 _ _ h5 (fun hm => ?_), h6, h7⟩
  rw [q st hm cell h5] at h6; cases h6
theorem own_ex {args : Array Value} {s : State} {t : Term} {C : String} (h : (Jvm.Cond.exactly t C).value args s none s [] = some true) : ∃ a, t.eval args s none [] s = some (.ref a) ∧ Exa s s.heap a C := by
  obtain ⟨a, e1⟩ := exa_v h; exact ⟨a, e1, Exa.start e1 h⟩
theorem own_evI {args : Array Value} {s : State} {t : Term} {z : Int32} (h : (Jvm.Cond.eq t (.int z)).value args s none s [] = some true) : t.eval args s none [] s = some (.int z) := by
  cases hv : t.eval args s none [] s with
  | none => simp [Cond.value, hv] at h
  | some x => cases x <;> simp [Cond.value, Term.eval, hv] at h ⊢; exact h
theorem own_evJ {args : Array Value} {s : State} {t : Term} {z : Int64} (h : (Jvm.Cond.eq t (.long z)).value args s none s [] = some true) : t.eval args s none [] s = some (.long z) := by
  cases hv : t.eval args s none [] s with
  | none => simp [Cond.value, hv] at h
  | some x => cases x <;> simp [Cond.value, Term.eval, hv] at h ⊢; exact h
theorem own_fldV {args : Array Value} {s : State} {t : Term} {a : Addr} {C n d : String} {v : Value} (ev : t.eval args s none [] s = some (.ref a)) (h : (Term.field t C n d).eval args s none [] s = some v) : Fld s s.heap a C n d v := by
  refine Fld.start ?_
  rw [← fld_at (args := args) (first := s) (o := none) (idx := []) ev]; exact h
theorem own_lt (a b : Int32) : a < b ↔ a.toInt < b.toInt := Int32.lt_iff_toInt_lt
theorem own_le (a b : Int32) : a ≤ b ↔ a.toInt ≤ b.toInt := Int32.le_iff_toInt_le
theorem own_eqi (a b : Int32) : a = b ↔ a.toInt = b.toInt := Int32.toInt_inj.symm
theorem own_ltL (a b : Int64) : a < b ↔ a.toInt < b.toInt := Int64.lt_iff_toInt_lt
theorem own_eqL (a b : Int64) : a = b ↔ a.toInt = b.toInt := Int64.toInt_inj.symm
theorem own_evR {args : Array Value} {s : State} {t u : Term} {a : Addr} (h : (Jvm.Cond.eq t u).value args s none s [] = some true) (hu : u.eval args s none [] s = some (.ref a)) : t.eval args s none [] s = some (.ref a) := by
  cases hv : t.eval args s none [] s with
  | none => simp [Cond.value, hv] at h
  | some x => cases x <;> simp [Cond.value, hu, hv] at h ⊢; exact h
theorem own_len {args : Array Value} {s : State} {t : Term} {a : Addr} {cl : Cell} {z : Int32} (ev : t.eval args s none [] s = some (.ref a)) (hc : s.arrayAt? a = some cl) (h : (Term.length t).eval args s none [] s = some (.int z)) : cl.slots.size < 2 ^ 31 ∧ cl.slots.size.toInt32 = z := by
  by_cases q : cl.slots.size < 2147483648
  · simp [Term.eval, ev, hc, q] at h; exact ⟨q, h⟩
  · simp [Term.eval, ev, hc, q] at h
theorem pn_0 : plainName "com/example/ratatoskr/ratatoskr/io/FrameReader" = true := by first | (simp [plainName, overriddenIn]; done) | decide +kernel
theorem d1_0 : decode prog_14_method_1_code 0 = .ok (.aload_n 0, 1) := by decide +kernel
theorem d1_1 : decode prog_14_method_1_code 1 = .ok (.invokespecial 1, 3) := by decide +kernel
theorem d1_4 : decode prog_14_method_1_code 4 = .ok (.aload_n 0, 1) := by decide +kernel
theorem d1_5 : decode prog_14_method_1_code 5 = .ok (.aload_n 1, 1) := by decide +kernel
theorem d1_6 : decode prog_14_method_1_code 6 = .ok (.putfield 7, 3) := by decide +kernel
theorem d1_9 : decode prog_14_method_1_code 9 = .ok (.return_, 1) := by decide +kernel
theorem ef_1 (m : MethodId) (a1_0 : Addr) (a1_1 : Addr) : entryFrame m #[(.ref a1_0), (.ref a1_1)] 2 = mkF m 0 #[.val (.ref a1_0), .val (.ref a1_1)] [] := by first | (simp [entryFrame, mkF, argsToLocals, Value.category]; done) | rfl
def Q1 (Z : State) (a1_0 : Addr) (a1_1 : Addr) (h0 : Heap) (n0 : Nat) (v : Option Value) (h : Heap) (L : List Loc) : Prop := v = none ∧ Fr n0 L ∧ Keep h0 h [a1_0] ∧ Exa Z h a1_0 "com/example/ratatoskr/ratatoskr/io/FrameReader" ∧ Fld Z h a1_0 "com/example/ratatoskr/ratatoskr/io/FrameReader" "bytes" "[B" (.ref a1_1) ∧ Fld Z h a1_0 "com/example/ratatoskr/ratatoskr/io/FrameReader" "index" "I" (.int (0 : Int32))
set_option maxRecDepth 65536 in
set_option maxHeartbeats 40000000 in
theorem rm1 (l : Launch) (Z : State) (a0 : Array Value) (hw : ∀ d ∈ tables_1, d.before a0 Z = true) (ws : List Jvm.Cond) (a1_0 : Addr) (a1_1 : Addr) (h0 : Heap) (n0 : Nat) (Z0 : n0 ≤ h0.size) (Ea : Exa Z h0 a1_0 "com/example/ratatoskr/ratatoskr/io/FrameReader") (Fb : Fld Z h0 a1_0 "com/example/ratatoskr/ratatoskr/io/FrameReader" "bytes" "[B" .null) (Fi : Fld Z h0 a1_0 "com/example/ratatoskr/ratatoskr/io/FrameReader" "index" "I" (.int (0 : Int32))) (g_a1_0 : n0 ≤ a1_0) :
    MetFree l (⟨"com/example/ratatoskr/ratatoskr/io/FrameReader", "<init>", "([B)V"⟩ : MethodName) (head1 (Jvm.Cond.code (⟨"com/example/ratatoskr/ratatoskr/io/FrameReader", "<init>", "([B)V"⟩ : MethodName) prog_14_method_1_code 2 none :: ws) ({ frames := 1, cells := 0, slots := 0, locals := 12 } : Room)) (fun a U => a = #[(.ref a1_0), (.ref a1_1)] ∧ Z.Warmed39 U.vm ∧ U.heap = h0) (fun _ _ _ _ _ => True) (fun _ U o U' => ∃ v L, o = .returned v ∧ Q1 Z a1_0 a1_1 h0 n0 v U'.heap L ∧ FrameEnd U o U' L ({ frames := 1, cells := 0, slots := 0, locals := 12 } : Room).cells ({ frames := 1, cells := 0, slots := 0, locals := 12 } : Room).slots) := by
  refine MetFree.of_bodySF (plainFor_of_name pn_0) hisR ?_
  intro p e s m args below meth c s₁ Bd hml0 hP hK
  obtain ⟨rfl, hZ, hh⟩ := hP
  have hx := Bd.exec
  have hby := Bd.bytes
  have hml : c.maxLocals = 2 := hml0
  have hown : s.vm.findClass "com/example/ratatoskr/ratatoskr/io/FrameReader" = some m.cls := findClass_of_methodNamed Bd.named
  have hnm := (name_of_methodNamed Bd.named Bd.method).1
  have X0 : Stand p l e ({ frames := 1, cells := 0, slots := 0, locals := 12 } : Room) s m #[(.ref a1_0), (.ref a1_1)] below meth c s₁ [] 0 0 := Stand.of_body Bd
  have e0 : s₁.heap = h0 := by rw [← hh, Bd.state]; rfl
  have N0 := Fr.nil n0
  have pre0 : ∀ t, Steps p.tables e below (s₁.setTop (mkF m 0 #[.val (.ref a1_0), .val (.ref a1_1)] [])) t → Steps p.tables e below (s₁.setTop (entryFrame m #[(.ref a1_0), (.ref a1_1)] 2)) t := fun t k => castTop (ef_1 m a1_0 a1_1) k
  obtain ⟨T1, X1, e1, st1⟩ := initO X0 hx hZ hown (hw _ (List.mem_of_getElem? (i := 8) rfl)) (hw _ (List.mem_of_getElem? (i := 9) rfl)) (hw _ (List.mem_of_getElem? (i := 10) rfl)) e0 (g := (mkF m 1 #[.val (.ref a1_0), .val (.ref a1_1)] [(.ref a1_0)])) rfl (by rw [hml]; rfl) rfl (hb hby d1_1) (by decide) (W := 0) (by show 2 * 0 + _ ≤ _; exact Nat.le_of_eq rfl) (by decide)
  obtain ⟨T2, h2, X2, e2, W2, st2⟩ := putF X1 hx hZ hown (host := "") (Or.inl (hw _ (List.mem_of_getElem? (i := 11) rfl))) Via.refl e1 Fb Ea (Or.inr ⟨(hw _ (List.mem_of_getElem? (i := 12) rfl)), rfl, hnm⟩) (hw _ (List.mem_of_getElem? (i := 3) rfl)) (ty := (.array .byte)) (by decide) rfl rfl (g := (mkF m 6 #[.val (.ref a1_0), .val (.ref a1_1)] [(.ref a1_1), (.ref a1_0)])) rfl rfl (hb hby d1_6)
  have Fw2 : Fld Z h2 a1_0 "com/example/ratatoskr/ratatoskr/io/FrameReader" "bytes" "[B" (.ref a1_1) := Fb.same W2
  have F3 : Exa Z h2 a1_0 "com/example/ratatoskr/ratatoskr/io/FrameReader" := Ea.wr W2
  have F5 : Fld Z h2 a1_0 "com/example/ratatoskr/ratatoskr/io/FrameReader" "index" "I" (.int (0 : Int32)) := Fi.other W2 (Or.inr (slot_ne (Or.inl (hw _ (List.mem_of_getElem? (i := 19) rfl))) (Or.inr (hw _ (List.mem_of_getElem? (i := 12) rfl))) (by decide) (t := .int) (t' := (.array .byte)) (by decide) (by decide)))
  have N2 := Fr.snoc X2 N0 g_a1_0
  have K2 : Keep h0 h2 [a1_0] := (Keep.refl h0 [a1_0]).wr W2 (Or.inl (List.mem_of_getElem? (i := 0) rfl))
  have Zs2 : n0 ≤ h2.size := by rw [W2.size]; exact Z0
  have k6 : ∀ t, Steps p.tables e below (T2.setTop (mkF m 9 #[.val (.ref a1_0), .val (.ref a1_1)] [])) t → Steps p.tables e below (s₁.setTop (entryFrame m #[(.ref a1_0), (.ref a1_1)] 2)) t := by
    intro t k
    refine pre0 t ?_
    show Steps p.tables e below (s₁.setTop (mkF m 0 #[.val (.ref a1_0), .val (.ref a1_1)] [])) _
    refine XS.aloadN X0.here hx rfl (hb hby d1_0) rfl rfl ?_
    show Steps p.tables e below (s₁.setTop (mkF m 1 #[.val (.ref a1_0), .val (.ref a1_1)] [(.ref a1_0)])) _
    refine st1 _ ?_
    show Steps p.tables e below (T1.setTop (mkF m 4 #[.val (.ref a1_0), .val (.ref a1_1)] [])) _
    refine XS.aloadN X1.here hx rfl (hb hby d1_4) rfl rfl ?_
    show Steps p.tables e below (T1.setTop (mkF m 5 #[.val (.ref a1_0), .val (.ref a1_1)] [(.ref a1_0)])) _
    refine XS.aloadN X1.here hx rfl (hb hby d1_5) rfl rfl ?_
    show Steps p.tables e below (T1.setTop (mkF m 6 #[.val (.ref a1_0), .val (.ref a1_1)] [(.ref a1_1), (.ref a1_0)])) _
    refine st2 _ ?_
    exact k
  obtain ⟨fs, hr, hrun, hended, hW, hsame⟩ := X2.leave (v := none) (fun _ => rfl)
  refine ⟨_, _, k6 _ ?_, hrun, hended, _, _, rfl, ?_, ⟨_, rfl⟩, hW, hsame.mono (by decide) (by decide)⟩
  · exact X2.returnOut hx Bd.returns (hb hby d1_9) hr
  · show Q1 Z a1_0 a1_1 h0 n0 _ T2.heap _
    rw [e2]
    exact ⟨rfl, N2, K2, F3, Fw2, F5⟩
theorem d2_0 : decode prog_14_method_3_code 0 = .ok (.aload_n 0, 1) := by decide +kernel
theorem d2_1 : decode prog_14_method_3_code 1 = .ok (.getfield 13, 3) := by decide +kernel
theorem d2_4 : decode prog_14_method_3_code 4 = .ok (.aload_n 0, 1) := by decide +kernel
theorem d2_5 : decode prog_14_method_3_code 5 = .ok (.getfield 7, 3) := by decide +kernel
theorem d2_8 : decode prog_14_method_3_code 8 = .ok (.arraylength, 1) := by decide +kernel
theorem d2_9 : decode prog_14_method_3_code 9 = .ok (.if_icmp .ge 7, 3) := by decide +kernel
theorem d2_12 : decode prog_14_method_3_code 12 = .ok (.iconst 1, 1) := by decide +kernel
theorem d2_13 : decode prog_14_method_3_code 13 = .ok (.goto 4, 3) := by decide +kernel
theorem d2_16 : decode prog_14_method_3_code 16 = .ok (.iconst 0, 1) := by decide +kernel
theorem d2_17 : decode prog_14_method_3_code 17 = .ok (.ireturn, 1) := by decide +kernel
theorem ef_2 (m : MethodId) (a2_0 : Addr) : entryFrame m #[(.ref a2_0)] 1 = mkF m 0 #[.val (.ref a2_0)] [] := by first | (simp [entryFrame, mkF, argsToLocals, Value.category]; done) | rfl
def own_isr (ix : Int32) (nn : Int32) : Int32 := (if ix < nn then (1 : Int32) else (0 : Int32))
def Q2 (Z : State) (a2_0 : Addr) (ix : Int32) (ar : Addr) (kk : ClassId) (nn : Int32) (h0 : Heap) (n0 : Nat) (v : Option Value) (h : Heap) (L : List Loc) : Prop := v = some (.int (own_isr ix nn)) ∧ Fr n0 L ∧ h = h0
set_option maxRecDepth 65536 in
set_option maxHeartbeats 40000000 in
theorem rm2 (l : Launch) (Z : State) (a0 : Array Value) (hw : ∀ d ∈ tables_1, d.before a0 Z = true) (ws : List Jvm.Cond) (a2_0 : Addr) (ix : Int32) (ar : Addr) (kk : ClassId) (nn : Int32) (h0 : Heap) (n0 : Nat) (Z0 : n0 ≤ h0.size) (F1 : Fld Z h0 a2_0 "com/example/ratatoskr/ratatoskr/io/FrameReader" "index" "I" (.int ix)) (F2 : Fld Z h0 a2_0 "com/example/ratatoskr/ratatoskr/io/FrameReader" "bytes" "[B" (.ref ar)) (V1 : Arv Z h0 ar kk .byte nn [] (.int (0 : Int32))) :
    MetFree l (⟨"com/example/ratatoskr/ratatoskr/io/FrameReader", "isReadable", "()Z"⟩ : MethodName) (head1 (Jvm.Cond.code (⟨"com/example/ratatoskr/ratatoskr/io/FrameReader", "isReadable", "()Z"⟩ : MethodName) prog_14_method_3_code 1 (some .boolean) :: ws) ({ frames := 0, cells := 0, slots := 0, locals := 0 } : Room)) (fun a U => a = #[(.ref a2_0)] ∧ Z.Warmed39 U.vm ∧ U.heap = h0) (fun _ _ _ _ _ => True) (fun _ U o U' => ∃ v L, o = .returned v ∧ Q2 Z a2_0 ix ar kk nn h0 n0 v U'.heap L ∧ FrameEnd U o U' L ({ frames := 0, cells := 0, slots := 0, locals := 0 } : Room).cells ({ frames := 0, cells := 0, slots := 0, locals := 0 } : Room).slots) := by
  refine MetFree.of_bodySF (plainFor_of_name pn_0) hisR ?_
  intro p e s m args below meth c s₁ Bd hml0 hP hK
  obtain ⟨rfl, hZ, hh⟩ := hP
  have hx := Bd.exec
  have hby := Bd.bytes
  have hml : c.maxLocals = 1 := hml0
  have hown : s.vm.findClass "com/example/ratatoskr/ratatoskr/io/FrameReader" = some m.cls := findClass_of_methodNamed Bd.named
  have hnm := (name_of_methodNamed Bd.named Bd.method).1
  have X0 : Stand p l e ({ frames := 0, cells := 0, slots := 0, locals := 0 } : Room) s m #[(.ref a2_0)] below meth c s₁ [] 0 0 := Stand.of_body Bd
  have e0 : s₁.heap = h0 := by rw [← hh, Bd.state]; rfl
  have N0 := Fr.nil n0
  have pre0 : ∀ t, Steps p.tables e below (s₁.setTop (mkF m 0 #[.val (.ref a2_0)] [])) t → Steps p.tables e below (s₁.setTop (entryFrame m #[(.ref a2_0)] 1)) t := fun t k => castTop (ef_2 m a2_0) k
  obtain ⟨T1, X1, e1, st1⟩ := getF X0 hx hZ hown (host := "") (Or.inl (hw _ (List.mem_of_getElem? (i := 18) rfl))) Via.refl e0 F1 (g := (mkF m 1 #[.val (.ref a2_0)] [(.ref a2_0)])) rfl rfl (hb hby d2_1)
  obtain ⟨T2, X2, e2, st2⟩ := getF X1 hx hZ hown (host := "") (Or.inl (hw _ (List.mem_of_getElem? (i := 11) rfl))) Via.refl e1 F2 (g := (mkF m 5 #[.val (.ref a2_0)] [(.ref a2_0), (.int ix)])) rfl rfl (hb hby d2_5)
  obtain ⟨cl3, Ar3, qc3, Sz3, Nn3, Hh3, Gg3⟩ := (id V1)
  have k4 : ∀ t, Steps p.tables e below (T2.setTop (mkF m 9 #[.val (.ref a2_0)] [(.int nn), (.int ix)])) t → Steps p.tables e below (s₁.setTop (entryFrame m #[(.ref a2_0)] 1)) t := by
    intro t k
    refine pre0 t ?_
    show Steps p.tables e below (s₁.setTop (mkF m 0 #[.val (.ref a2_0)] [])) _
    refine XS.aloadN X0.here hx rfl (hb hby d2_0) rfl rfl ?_
    show Steps p.tables e below (s₁.setTop (mkF m 1 #[.val (.ref a2_0)] [(.ref a2_0)])) _
    refine st1 _ ?_
    show Steps p.tables e below (T1.setTop (mkF m 4 #[.val (.ref a2_0)] [(.int ix)])) _
    refine XS.aloadN X1.here hx rfl (hb hby d2_4) rfl rfl ?_
    show Steps p.tables e below (T1.setTop (mkF m 5 #[.val (.ref a2_0)] [(.ref a2_0), (.int ix)])) _
    refine st2 _ ?_
    show Steps p.tables e below (T2.setTop (mkF m 8 #[.val (.ref a2_0)] [(.ref ar), (.int ix)])) _
    refine X2.arraylength hx (by rw [e2]; exact Ar3.1) (State.isArrayOf_alike hZ.alike Ar3.2.1) (g := (mkF m 8 #[.val (.ref a2_0)] [(.ref ar), (.int ix)])) rfl rfl (hb hby d2_8) _ ?_
    rw [len_of Sz3 Nn3]
    exact k
  by_cases hc9_5 : ix < nn
  · skip
    have k6 : ∀ t, Steps p.tables e below (T2.setTop (mkF m 17 #[.val (.ref a2_0)] [(.int (1 : Int32))])) t → Steps p.tables e below (s₁.setTop (entryFrame m #[(.ref a2_0)] 1)) t := by
      intro t k
      refine k4 t ?_
      show Steps p.tables e below (T2.setTop (mkF m 9 #[.val (.ref a2_0)] [(.int nn), (.int ix)])) _
      refine XS.icmpNo X2.here hx rfl (hb hby d2_9) rfl (tlt hc9_5).2.1 ?_
      show Steps p.tables e below (T2.setTop (mkF m 12 #[.val (.ref a2_0)] [])) _
      refine XS.iconst X2.here hx rfl (hb hby d2_12) ?_
      show Steps p.tables e below (T2.setTop (mkF m 13 #[.val (.ref a2_0)] [(.int (1 : Int32))])) _
      refine XS.goto X2.here hx rfl (pc0 := 13) (pc' := 17) rfl (hb hby d2_13) (by decide) (by decide) ?_
      exact k
    obtain ⟨fs, hr, hrun, hended, hW, hsame⟩ := X2.leave (v := some (.int (1 : Int32))) (fun h => by rw [Bd.returns] at h; cases h)
    refine ⟨_, _, k6 _ ?_, hrun, hended, _, _, rfl, ?_, ⟨_, rfl⟩, hW, hsame.mono (by decide) (by decide)⟩
    · exact retN X2 hx (t := .boolean) Bd.returns (by simp) (hb hby d2_17) hr
    · show Q2 Z a2_0 ix ar kk nn h0 n0 _ T2.heap _
      rw [e2]
      exact ⟨congrArg (fun z => some (Value.int z)) (show ((1 : Int32) : Int32) = own_isr ix nn from by unfold own_isr; rw [if_pos hc9_5]), N0, rfl⟩
  · skip
    have k7 : ∀ t, Steps p.tables e below (T2.setTop (mkF m 17 #[.val (.ref a2_0)] [(.int (0 : Int32))])) t → Steps p.tables e below (s₁.setTop (entryFrame m #[(.ref a2_0)] 1)) t := by
      intro t k
      refine k4 t ?_
      show Steps p.tables e below (T2.setTop (mkF m 9 #[.val (.ref a2_0)] [(.int nn), (.int ix)])) _
      refine XS.icmpYes X2.here hx rfl (pc0 := 9) (pc' := 16) rfl (hb hby d2_9) rfl (flt hc9_5).2.1 (by decide) (by decide) ?_
      show Steps p.tables e below (T2.setTop (mkF m 16 #[.val (.ref a2_0)] [])) _
      refine XS.iconst X2.here hx rfl (hb hby d2_16) ?_
      exact k
    obtain ⟨fs, hr, hrun, hended, hW, hsame⟩ := X2.leave (v := some (.int (0 : Int32))) (fun h => by rw [Bd.returns] at h; cases h)
    refine ⟨_, _, k7 _ ?_, hrun, hended, _, _, rfl, ?_, ⟨_, rfl⟩, hW, hsame.mono (by decide) (by decide)⟩
    · exact retN X2 hx (t := .boolean) Bd.returns (by simp) (hb hby d2_17) hr
    · show Q2 Z a2_0 ix ar kk nn h0 n0 _ T2.heap _
      rw [e2]
      exact ⟨congrArg (fun z => some (Value.int z)) (show ((0 : Int32) : Int32) = own_isr ix nn from by unfold own_isr; rw [if_neg hc9_5]), N0, rfl⟩
theorem d3_0 : decode prog_14_method_2_code 0 = .ok (.aload_n 0, 1) := by decide +kernel
theorem d3_1 : decode prog_14_method_2_code 1 = .ok (.getfield 7, 3) := by decide +kernel
theorem d3_4 : decode prog_14_method_2_code 4 = .ok (.arraylength, 1) := by decide +kernel
theorem d3_5 : decode prog_14_method_2_code 5 = .ok (.aload_n 0, 1) := by decide +kernel
theorem d3_6 : decode prog_14_method_2_code 6 = .ok (.getfield 13, 3) := by decide +kernel
theorem d3_9 : decode prog_14_method_2_code 9 = .ok (.isub, 1) := by decide +kernel
theorem d3_10 : decode prog_14_method_2_code 10 = .ok (.ireturn, 1) := by decide +kernel
theorem ef_3 (m : MethodId) (a3_0 : Addr) : entryFrame m #[(.ref a3_0)] 1 = mkF m 0 #[.val (.ref a3_0)] [] := by first | (simp [entryFrame, mkF, argsToLocals, Value.category]; done) | rfl
def Q3 (Z : State) (a3_0 : Addr) (ar : Addr) (kk : ClassId) (nn : Int32) (h0 : Heap) (n0 : Nat) (v : Option Value) (h : Heap) (L : List Loc) : Prop := v = some (.int nn) ∧ Fr n0 L ∧ h = h0
set_option maxRecDepth 65536 in
set_option maxHeartbeats 40000000 in
theorem rm3 (l : Launch) (Z : State) (a0 : Array Value) (hw : ∀ d ∈ tables_1, d.before a0 Z = true) (ws : List Jvm.Cond) (a3_0 : Addr) (ar : Addr) (kk : ClassId) (nn : Int32) (h0 : Heap) (n0 : Nat) (Z0 : n0 ≤ h0.size) (F1 : Fld Z h0 a3_0 "com/example/ratatoskr/ratatoskr/io/FrameReader" "index" "I" (.int (0 : Int32))) (F2 : Fld Z h0 a3_0 "com/example/ratatoskr/ratatoskr/io/FrameReader" "bytes" "[B" (.ref ar)) (V1 : Arv Z h0 ar kk .byte nn [] (.int (0 : Int32))) :
    MetFree l (⟨"com/example/ratatoskr/ratatoskr/io/FrameReader", "readableBytes", "()I"⟩ : MethodName) (head1 (Jvm.Cond.code (⟨"com/example/ratatoskr/ratatoskr/io/FrameReader", "readableBytes", "()I"⟩ : MethodName) prog_14_method_2_code 1 (some .int) :: ws) ({ frames := 0, cells := 0, slots := 0, locals := 0 } : Room)) (fun a U => a = #[(.ref a3_0)] ∧ Z.Warmed39 U.vm ∧ U.heap = h0) (fun _ _ _ _ _ => True) (fun _ U o U' => ∃ v L, o = .returned v ∧ Q3 Z a3_0 ar kk nn h0 n0 v U'.heap L ∧ FrameEnd U o U' L ({ frames := 0, cells := 0, slots := 0, locals := 0 } : Room).cells ({ frames := 0, cells := 0, slots := 0, locals := 0 } : Room).slots) := by
  refine MetFree.of_bodySF (plainFor_of_name pn_0) hisR ?_
  intro p e s m args below meth c s₁ Bd hml0 hP hK
  obtain ⟨rfl, hZ, hh⟩ := hP
  have hx := Bd.exec
  have hby := Bd.bytes
  have hml : c.maxLocals = 1 := hml0
  have hown : s.vm.findClass "com/example/ratatoskr/ratatoskr/io/FrameReader" = some m.cls := findClass_of_methodNamed Bd.named
  have hnm := (name_of_methodNamed Bd.named Bd.method).1
  have X0 : Stand p l e ({ frames := 0, cells := 0, slots := 0, locals := 0 } : Room) s m #[(.ref a3_0)] below meth c s₁ [] 0 0 := Stand.of_body Bd
  have e0 : s₁.heap = h0 := by rw [← hh, Bd.state]; rfl
  have N0 := Fr.nil n0
  have pre0 : ∀ t, Steps p.tables e below (s₁.setTop (mkF m 0 #[.val (.ref a3_0)] [])) t → Steps p.tables e below (s₁.setTop (entryFrame m #[(.ref a3_0)] 1)) t := fun t k => castTop (ef_3 m a3_0) k
  obtain ⟨T1, X1, e1, st1⟩ := getF X0 hx hZ hown (host := "") (Or.inl (hw _ (List.mem_of_getElem? (i := 11) rfl))) Via.refl e0 F2 (g := (mkF m 1 #[.val (.ref a3_0)] [(.ref a3_0)])) rfl rfl (hb hby d3_1)
  obtain ⟨cl2, Ar2, qc2, Sz2, Nn2, Hh2, Gg2⟩ := (id V1)
  obtain ⟨T3, X3, e3, st3⟩ := getF X1 hx hZ hown (host := "") (Or.inl (hw _ (List.mem_of_getElem? (i := 18) rfl))) Via.refl e1 F1 (g := (mkF m 6 #[.val (.ref a3_0)] [(.ref a3_0), (.int nn)])) rfl rfl (hb hby d3_6)
  have k4 : ∀ t, Steps p.tables e below (T3.setTop (mkF m 10 #[.val (.ref a3_0)] [(.int (nn - (0 : Int32)))])) t → Steps p.tables e below (s₁.setTop (entryFrame m #[(.ref a3_0)] 1)) t := by
    intro t k
    refine pre0 t ?_
    show Steps p.tables e below (s₁.setTop (mkF m 0 #[.val (.ref a3_0)] [])) _
    refine XS.aloadN X0.here hx rfl (hb hby d3_0) rfl rfl ?_
    show Steps p.tables e below (s₁.setTop (mkF m 1 #[.val (.ref a3_0)] [(.ref a3_0)])) _
    refine st1 _ ?_
    show Steps p.tables e below (T1.setTop (mkF m 4 #[.val (.ref a3_0)] [(.ref ar)])) _
    refine X1.arraylength hx (by rw [e1]; exact Ar2.1) (State.isArrayOf_alike hZ.alike Ar2.2.1) (g := (mkF m 4 #[.val (.ref a3_0)] [(.ref ar)])) rfl rfl (hb hby d3_4) _ ?_
    rw [len_of Sz2 Nn2]
    show Steps p.tables e below (T1.setTop (mkF m 5 #[.val (.ref a3_0)] [(.int nn)])) _
    refine XS.aloadN X1.here hx rfl (hb hby d3_5) rfl rfl ?_
    show Steps p.tables e below (T1.setTop (mkF m 6 #[.val (.ref a3_0)] [(.ref a3_0), (.int nn)])) _
    refine st3 _ ?_
    show Steps p.tables e below (T3.setTop (mkF m 9 #[.val (.ref a3_0)] [(.int (0 : Int32)), (.int nn)])) _
    refine XS.isub X3.here hx rfl (hb hby d3_9) rfl ?_
    exact k
  obtain ⟨fs, hr, hrun, hended, hW, hsame⟩ := X3.leave (v := some (.int (nn - (0 : Int32)))) (fun h => by rw [Bd.returns] at h; cases h)
  refine ⟨_, _, k4 _ ?_, hrun, hended, _, _, rfl, ?_, ⟨_, rfl⟩, hW, hsame.mono (by decide) (by decide)⟩
  · exact retI X3 hx Bd.returns (hb hby d3_10) hr
  · show Q3 Z a3_0 ar kk nn h0 n0 _ T3.heap _
    rw [e3]
    exact ⟨congrArg (fun z => some (Value.int z)) (Int32.sub_zero nn), N0, rfl⟩
theorem pd_0 : parseMethodDescriptor "()I" = some ⟨[], some .int⟩ := by decide +kernel
theorem d4_0 : decode prog_14_method_12_code 0 = .ok (.iload_n 1, 1) := by decide +kernel
theorem d4_1 : decode prog_14_method_12_code 1 = .ok (.ifCond .lt 11, 3) := by decide +kernel
theorem d4_4 : decode prog_14_method_12_code 4 = .ok (.iload_n 1, 1) := by decide +kernel
theorem d4_5 : decode prog_14_method_12_code 5 = .ok (.aload_n 0, 1) := by decide +kernel
theorem d4_6 : decode prog_14_method_12_code 6 = .ok (.invokevirtual 50, 3) := by decide +kernel
theorem d4_9 : decode prog_14_method_12_code 9 = .ok (.if_icmp .le 30, 3) := by decide +kernel
theorem d4_39 : decode prog_14_method_12_code 39 = .ok (.return_, 1) := by decide +kernel
theorem ef_4 (m : MethodId) (a4_0 : Addr) (p4_1 : Int32) : entryFrame m #[(.ref a4_0), (.int p4_1)] 2 = mkF m 0 #[.val (.ref a4_0), .val (.int p4_1)] [] := by first | (simp [entryFrame, mkF, argsToLocals, Value.category]; done) | rfl
def Q4 (Z : State) (a4_0 : Addr) (p4_1 : Int32) (ar : Addr) (kk : ClassId) (nn : Int32) (h0 : Heap) (n0 : Nat) (v : Option Value) (h : Heap) (L : List Loc) : Prop := v = none ∧ Fr n0 L ∧ h = h0
set_option maxRecDepth 65536 in
set_option maxHeartbeats 40000000 in
theorem rm4 (l : Launch) (Z : State) (a0 : Array Value) (hw : ∀ d ∈ tables_1, d.before a0 Z = true) (ws : List Jvm.Cond) (a4_0 : Addr) (p4_1 : Int32) (ar : Addr) (kk : ClassId) (nn : Int32) (h0 : Heap) (n0 : Nat) (Z0 : n0 ≤ h0.size) (Ea : Exa Z h0 a4_0 "com/example/ratatoskr/ratatoskr/io/FrameReader") (F1 : Fld Z h0 a4_0 "com/example/ratatoskr/ratatoskr/io/FrameReader" "index" "I" (.int (0 : Int32))) (F2 : Fld Z h0 a4_0 "com/example/ratatoskr/ratatoskr/io/FrameReader" "bytes" "[B" (.ref ar)) (V1 : Arv Z h0 ar kk .byte nn [] (.int (0 : Int32))) (hp0 : ¬ (p4_1 < (0 : Int32))) (hpn : ¬ (nn < p4_1)) :
    MetFree l (⟨"com/example/ratatoskr/ratatoskr/io/FrameReader", "require", "(I)V"⟩ : MethodName) (head1 (Jvm.Cond.code (⟨"com/example/ratatoskr/ratatoskr/io/FrameReader", "require", "(I)V"⟩ : MethodName) prog_14_method_12_code 2 none :: ws) ({ frames := 1, cells := 0, slots := 0, locals := 13 } : Room)) (fun a U => a = #[(.ref a4_0), (.int p4_1)] ∧ Z.Warmed39 U.vm ∧ U.heap = h0) (fun _ _ _ _ _ => True) (fun _ U o U' => ∃ v L, o = .returned v ∧ Q4 Z a4_0 p4_1 ar kk nn h0 n0 v U'.heap L ∧ FrameEnd U o U' L ({ frames := 1, cells := 0, slots := 0, locals := 13 } : Room).cells ({ frames := 1, cells := 0, slots := 0, locals := 13 } : Room).slots) := by
  refine MetFree.of_bodySF (plainFor_of_name pn_0) hisR ?_
  intro p e s m args below meth c s₁ Bd hml0 hP hK
  obtain ⟨rfl, hZ, hh⟩ := hP
  have hx := Bd.exec
  have hby := Bd.bytes
  have hml : c.maxLocals = 2 := hml0
  have hown : s.vm.findClass "com/example/ratatoskr/ratatoskr/io/FrameReader" = some m.cls := findClass_of_methodNamed Bd.named
  have hnm := (name_of_methodNamed Bd.named Bd.method).1
  have X0 : Stand p l e ({ frames := 1, cells := 0, slots := 0, locals := 13 } : Room) s m #[(.ref a4_0), (.int p4_1)] below meth c s₁ [] 0 0 := Stand.of_body Bd
  have e0 : s₁.heap = h0 := by rw [← hh, Bd.state]; rfl
  have N0 := Fr.nil n0
  have pre0 : ∀ t, Steps p.tables e below (s₁.setTop (mkF m 0 #[.val (.ref a4_0), .val (.int p4_1)] [])) t → Steps p.tables e below (s₁.setTop (entryFrame m #[(.ref a4_0), (.int p4_1)] 2)) t := fun t k => castTop (ef_4 m a4_0 p4_1) k
  obtain ⟨cq1, kq1, q1a, q1b, q1c⟩ := isOf hZ e0 Ea
  obtain ⟨_, _, ⟨T1, L1, k1, n1⟩, -, X1, ⟨Lc1, hQ1, l1, y1, z1⟩, st1⟩ := X0.virtualBack hx (y := (⟨"com/example/ratatoskr/ratatoskr/io/FrameReader", "readableBytes", "()I"⟩ : MethodName)) (z := (⟨"com/example/ratatoskr/ratatoskr/io/FrameReader", "readableBytes", "()I"⟩ : MethodName)) hown (mvT hZ (hw _ (List.mem_of_getElem? (i := 29) rfl))) (mvT hZ (hw _ (List.mem_of_getElem? (i := 30) rfl))) (notFace_of_selects (args := #[]) (mvT hZ (hw _ (List.mem_of_getElem? (i := 32) rfl)))) (mvT hZ (hw _ (List.mem_of_getElem? (i := 32) rfl))) (mvT hZ (hw _ (List.mem_of_getElem? (i := 31) rfl))) (by decide) (backOf (W := 1) (rm3 l Z a0 hw [] a4_0 ar kk nn h0 n0 Z0 F1 F2 V1) hZ (hw _ (List.mem_of_getElem? (i := 33) rfl)) (hw _ (List.mem_of_getElem? (i := 4) rfl)) (by decide) (by decide)) q1a q1c (g := (mkF m 6 #[.val (.ref a4_0), .val (.int p4_1)] [(.ref a4_0), (.int p4_1)])) rfl (by rw [hml]; rfl) (Steps.refl _) (argsL := []) (rest := [(.int p4_1)]) (lenOf pd_0 rfl) rfl (by show 2 * 0 + _ ≤ _; exact Nat.le_of_eq rfl) (hb hby d4_6) (fun _ _ => ⟨rfl, e0, (by decide : 0 + 0 ≤ _), (by decide : 0 + 0 ≤ _)⟩)
  dsimp only [Pt.U, Pt.locs, Pt.cells, Pt.slots] at X1 l1 y1 z1 st1 hQ1
  subst l1 y1 z1
  obtain ⟨rfl, N1q, eh1⟩ := hQ1
  have N1 := Fr.app N0 N1q
  have k2 : ∀ t, Steps p.tables e below (T1.setTop (mkF m 39 #[.val (.ref a4_0), .val (.int p4_1)] [])) t → Steps p.tables e below (s₁.setTop (entryFrame m #[(.ref a4_0), (.int p4_1)] 2)) t := by
    intro t k
    refine pre0 t ?_
    show Steps p.tables e below (s₁.setTop (mkF m 0 #[.val (.ref a4_0), .val (.int p4_1)] [])) _
    refine XS.iloadN X0.here hx rfl (hb hby d4_0) rfl ?_
    show Steps p.tables e below (s₁.setTop (mkF m 1 #[.val (.ref a4_0), .val (.int p4_1)] [(.int p4_1)])) _
    refine XS.ifNo X0.here hx rfl (hb hby d4_1) rfl ((if0 _ _).trans (flt hp0).1) ?_
    show Steps p.tables e below (s₁.setTop (mkF m 4 #[.val (.ref a4_0), .val (.int p4_1)] [])) _
    refine XS.iloadN X0.here hx rfl (hb hby d4_4) rfl ?_
    show Steps p.tables e below (s₁.setTop (mkF m 5 #[.val (.ref a4_0), .val (.int p4_1)] [(.int p4_1)])) _
    refine XS.aloadN X0.here hx rfl (hb hby d4_5) rfl rfl ?_
    show Steps p.tables e below (s₁.setTop (mkF m 6 #[.val (.ref a4_0), .val (.int p4_1)] [(.ref a4_0), (.int p4_1)])) _
    refine st1.trans ?_
    show Steps p.tables e below (T1.setTop (mkF m 9 #[.val (.ref a4_0), .val (.int p4_1)] [(.int nn), (.int p4_1)])) _
    refine XS.icmpYes X1.here hx rfl (pc0 := 9) (pc' := 39) rfl (hb hby d4_9) rfl (flt hpn).2.2.2 (by decide) (by decide) ?_
    exact k
  obtain ⟨fs, hr, hrun, hended, hW, hsame⟩ := X1.leave (v := none) (fun _ => rfl)
  refine ⟨_, _, k2 _ ?_, hrun, hended, _, _, rfl, ?_, ⟨_, rfl⟩, hW, hsame.mono (by decide) (by decide)⟩
  · exact X1.returnOut hx Bd.returns (hb hby d4_39) hr
  · show Q4 Z a4_0 p4_1 ar kk nn h0 n0 _ T1.heap _
    rw [eh1]
    exact ⟨rfl, N1, rfl⟩
theorem pn_1 : plainName "java/util/Arrays" = true := by first | (simp [plainName, overriddenIn]; done) | decide +kernel
theorem d5_0 : decode jdk_65_method_131_code 0 = .ok (.iload_n 1, 1) := by decide +kernel
theorem d5_1 : decode jdk_65_method_131_code 1 = .ok (.iload_n 0, 1) := by decide +kernel
theorem d5_2 : decode jdk_65_method_131_code 2 = .ok (.if_icmp .ge 35, 3) := by decide +kernel
theorem d5_37 : decode jdk_65_method_131_code 37 = .ok (.return_, 1) := by decide +kernel
theorem ef_5 (m : MethodId) (p5_1 : Int32) : entryFrame m #[(.int (0 : Int32)), (.int p5_1)] 2 = mkF m 0 #[.val (.int (0 : Int32)), .val (.int p5_1)] [] := by first | (simp [entryFrame, mkF, argsToLocals, Value.category]; done) | rfl
def Q5 (Z : State) (p5_1 : Int32) (h0 : Heap) (n0 : Nat) (v : Option Value) (h : Heap) (L : List Loc) : Prop := v = none ∧ Fr n0 L ∧ h = h0
set_option maxRecDepth 65536 in
set_option maxHeartbeats 40000000 in
theorem rm5 (l : Launch) (Z : State) (a0 : Array Value) (hw : ∀ d ∈ tables_1, d.before a0 Z = true) (ws : List Jvm.Cond) (p5_1 : Int32) (h0 : Heap) (n0 : Nat) (Z0 : n0 ≤ h0.size) (hp0 : ¬ (p5_1 < (0 : Int32))) :
    MetFree l (⟨"java/util/Arrays", "checkLength", "(II)V"⟩ : MethodName) (head1 (Jvm.Cond.code (⟨"java/util/Arrays", "checkLength", "(II)V"⟩ : MethodName) jdk_65_method_131_code 2 none :: ws) ({ frames := 0, cells := 0, slots := 0, locals := 0 } : Room)) (fun a U => a = #[(.int (0 : Int32)), (.int p5_1)] ∧ Z.Warmed39 U.vm ∧ U.heap = h0) (fun _ _ _ _ _ => True) (fun _ U o U' => ∃ v L, o = .returned v ∧ Q5 Z p5_1 h0 n0 v U'.heap L ∧ FrameEnd U o U' L ({ frames := 0, cells := 0, slots := 0, locals := 0 } : Room).cells ({ frames := 0, cells := 0, slots := 0, locals := 0 } : Room).slots) := by
  refine MetFree.of_bodySF (plainFor_of_name pn_1) hisR ?_
  intro p e s m args below meth c s₁ Bd hml0 hP hK
  obtain ⟨rfl, hZ, hh⟩ := hP
  have hx := Bd.exec
  have hby := Bd.bytes
  have hml : c.maxLocals = 2 := hml0
  have hown : s.vm.findClass "java/util/Arrays" = some m.cls := findClass_of_methodNamed Bd.named
  have hnm := (name_of_methodNamed Bd.named Bd.method).1
  have X0 : Stand p l e ({ frames := 0, cells := 0, slots := 0, locals := 0 } : Room) s m #[(.int (0 : Int32)), (.int p5_1)] below meth c s₁ [] 0 0 := Stand.of_body Bd
  have e0 : s₁.heap = h0 := by rw [← hh, Bd.state]; rfl
  have N0 := Fr.nil n0
  have pre0 : ∀ t, Steps p.tables e below (s₁.setTop (mkF m 0 #[.val (.int (0 : Int32)), .val (.int p5_1)] [])) t → Steps p.tables e below (s₁.setTop (entryFrame m #[(.int (0 : Int32)), (.int p5_1)] 2)) t := fun t k => castTop (ef_5 m p5_1) k
  have k1 : ∀ t, Steps p.tables e below (s₁.setTop (mkF m 37 #[.val (.int (0 : Int32)), .val (.int p5_1)] [])) t → Steps p.tables e below (s₁.setTop (entryFrame m #[(.int (0 : Int32)), (.int p5_1)] 2)) t := by
    intro t k
    refine pre0 t ?_
    show Steps p.tables e below (s₁.setTop (mkF m 0 #[.val (.int (0 : Int32)), .val (.int p5_1)] [])) _
    refine XS.iloadN X0.here hx rfl (hb hby d5_0) rfl ?_
    show Steps p.tables e below (s₁.setTop (mkF m 1 #[.val (.int (0 : Int32)), .val (.int p5_1)] [(.int p5_1)])) _
    refine XS.iloadN X0.here hx rfl (hb hby d5_1) rfl ?_
    show Steps p.tables e below (s₁.setTop (mkF m 2 #[.val (.int (0 : Int32)), .val (.int p5_1)] [(.int (0 : Int32)), (.int p5_1)])) _
    refine XS.icmpYes X0.here hx rfl (pc0 := 2) (pc' := 37) rfl (hb hby d5_2) rfl (flt hp0).2.1 (by decide) (by decide) ?_
    exact k
  obtain ⟨fs, hr, hrun, hended, hW, hsame⟩ := X0.leave (v := none) (fun _ => rfl)
  refine ⟨_, _, k1 _ ?_, hrun, hended, _, _, rfl, ?_, ⟨_, rfl⟩, hW, hsame.mono (by decide) (by decide)⟩
  · exact X0.returnOut hx Bd.returns (hb hby d5_37) hr
  · show Q5 Z p5_1 h0 n0 _ s₁.heap _
    rw [e0]
    exact ⟨rfl, N0, rfl⟩
theorem d6_0 : decode jdk_29_method_69_code 0 = .ok (.iload_n 0, 1) := by decide +kernel
theorem d6_1 : decode jdk_29_method_69_code 1 = .ok (.iload_n 1, 1) := by decide +kernel
theorem d6_2 : decode jdk_29_method_69_code 2 = .ok (.if_icmp .gt 7, 3) := by decide +kernel
theorem d6_5 : decode jdk_29_method_69_code 5 = .ok (.iload_n 0, 1) := by decide +kernel
theorem d6_6 : decode jdk_29_method_69_code 6 = .ok (.goto 4, 3) := by decide +kernel
theorem d6_9 : decode jdk_29_method_69_code 9 = .ok (.iload_n 1, 1) := by decide +kernel
theorem d6_10 : decode jdk_29_method_69_code 10 = .ok (.ireturn, 1) := by decide +kernel
theorem ef_6 (m : MethodId) (p6_0 : Int32) (p6_1 : Int32) : entryFrame m #[(.int p6_0), (.int p6_1)] 2 = mkF m 0 #[.val (.int p6_0), .val (.int p6_1)] [] := by first | (simp [entryFrame, mkF, argsToLocals, Value.category]; done) | rfl
def own_min (p6_0 : Int32) (p6_1 : Int32) : Int32 := (if p6_1 < p6_0 then p6_1 else p6_0)
def Q6 (Z : State) (p6_0 : Int32) (p6_1 : Int32) (h0 : Heap) (n0 : Nat) (v : Option Value) (h : Heap) (L : List Loc) : Prop := v = some (.int (own_min p6_0 p6_1)) ∧ Fr n0 L ∧ h = h0
set_option maxRecDepth 65536 in
set_option maxHeartbeats 40000000 in
theorem rm6 (l : Launch) (Z : State) (a0 : Array Value) (hw : ∀ d ∈ tables_1, d.before a0 Z = true) (ws : List Jvm.Cond) (p6_0 : Int32) (p6_1 : Int32) (h0 : Heap) (n0 : Nat) (Z0 : n0 ≤ h0.size) :
    MetFree l (⟨"java/lang/Math", "min", "(II)I"⟩ : MethodName) (head1 (Jvm.Cond.code (⟨"java/lang/Math", "min", "(II)I"⟩ : MethodName) jdk_29_method_69_code 2 (some .int) :: ws) ({ frames := 0, cells := 0, slots := 0, locals := 0 } : Room)) (fun a U => a = #[(.int p6_0), (.int p6_1)] ∧ Z.Warmed39 U.vm ∧ U.heap = h0) (fun _ _ _ _ _ => True) (fun _ U o U' => ∃ v L, o = .returned v ∧ Q6 Z p6_0 p6_1 h0 n0 v U'.heap L ∧ FrameEnd U o U' L ({ frames := 0, cells := 0, slots := 0, locals := 0 } : Room).cells ({ frames := 0, cells := 0, slots := 0, locals := 0 } : Room).slots) := by
  refine MetFree.of_bodySF (Jvm.Free.JP.mathPlain rfl (by decide +kernel)) hisR ?_
  intro p e s m args below meth c s₁ Bd hml0 hP hK
  obtain ⟨rfl, hZ, hh⟩ := hP
  have hx := Bd.exec
  have hby := Bd.bytes
  have hml : c.maxLocals = 2 := hml0
  have hown : s.vm.findClass "java/lang/Math" = some m.cls := findClass_of_methodNamed Bd.named
  have hnm := (name_of_methodNamed Bd.named Bd.method).1
  have X0 : Stand p l e ({ frames := 0, cells := 0, slots := 0, locals := 0 } : Room) s m #[(.int p6_0), (.int p6_1)] below meth c s₁ [] 0 0 := Stand.of_body Bd
  have e0 : s₁.heap = h0 := by rw [← hh, Bd.state]; rfl
  have N0 := Fr.nil n0
  have pre0 : ∀ t, Steps p.tables e below (s₁.setTop (mkF m 0 #[.val (.int p6_0), .val (.int p6_1)] [])) t → Steps p.tables e below (s₁.setTop (entryFrame m #[(.int p6_0), (.int p6_1)] 2)) t := fun t k => castTop (ef_6 m p6_0 p6_1) k
  have k1 : ∀ t, Steps p.tables e below (s₁.setTop (mkF m 2 #[.val (.int p6_0), .val (.int p6_1)] [(.int p6_1), (.int p6_0)])) t → Steps p.tables e below (s₁.setTop (entryFrame m #[(.int p6_0), (.int p6_1)] 2)) t := by
    intro t k
    refine pre0 t ?_
    show Steps p.tables e below (s₁.setTop (mkF m 0 #[.val (.int p6_0), .val (.int p6_1)] [])) _
    refine XS.iloadN X0.here hx rfl (hb hby d6_0) rfl ?_
    show Steps p.tables e below (s₁.setTop (mkF m 1 #[.val (.int p6_0), .val (.int p6_1)] [(.int p6_0)])) _
    refine XS.iloadN X0.here hx rfl (hb hby d6_1) rfl ?_
    exact k
  by_cases hc2_2 : p6_1 < p6_0
  · skip
    have k3 : ∀ t, Steps p.tables e below (s₁.setTop (mkF m 10 #[.val (.int p6_0), .val (.int p6_1)] [(.int p6_1)])) t → Steps p.tables e below (s₁.setTop (entryFrame m #[(.int p6_0), (.int p6_1)] 2)) t := by
      intro t k
      refine k1 t ?_
      show Steps p.tables e below (s₁.setTop (mkF m 2 #[.val (.int p6_0), .val (.int p6_1)] [(.int p6_1), (.int p6_0)])) _
      refine XS.icmpYes X0.here hx rfl (pc0 := 2) (pc' := 9) rfl (hb hby d6_2) rfl (tlt hc2_2).2.2.1 (by decide) (by decide) ?_
      show Steps p.tables e below (s₁.setTop (mkF m 9 #[.val (.int p6_0), .val (.int p6_1)] [])) _
      refine XS.iloadN X0.here hx rfl (hb hby d6_9) rfl ?_
      exact k
    obtain ⟨fs, hr, hrun, hended, hW, hsame⟩ := X0.leave (v := some (.int p6_1)) (fun h => by rw [Bd.returns] at h; cases h)
    refine ⟨_, _, k3 _ ?_, hrun, hended, _, _, rfl, ?_, ⟨_, rfl⟩, hW, hsame.mono (by decide) (by decide)⟩
    · exact retI X0 hx Bd.returns (hb hby d6_10) hr
    · show Q6 Z p6_0 p6_1 h0 n0 _ s₁.heap _
      rw [e0]
      exact ⟨congrArg (fun z => some (Value.int z)) (show (p6_1 : Int32) = own_min p6_0 p6_1 from by unfold own_min; rw [if_pos hc2_2]), N0, rfl⟩
  · skip
    have k4 : ∀ t, Steps p.tables e below (s₁.setTop (mkF m 10 #[.val (.int p6_0), .val (.int p6_1)] [(.int p6_0)])) t → Steps p.tables e below (s₁.setTop (entryFrame m #[(.int p6_0), (.int p6_1)] 2)) t := by
      intro t k
      refine k1 t ?_
      show Steps p.tables e below (s₁.setTop (mkF m 2 #[.val (.int p6_0), .val (.int p6_1)] [(.int p6_1), (.int p6_0)])) _
      refine XS.icmpNo X0.here hx rfl (hb hby d6_2) rfl (flt hc2_2).2.2.1 ?_
      show Steps p.tables e below (s₁.setTop (mkF m 5 #[.val (.int p6_0), .val (.int p6_1)] [])) _
      refine XS.iloadN X0.here hx rfl (hb hby d6_5) rfl ?_
      show Steps p.tables e below (s₁.setTop (mkF m 6 #[.val (.int p6_0), .val (.int p6_1)] [(.int p6_0)])) _
      refine XS.goto X0.here hx rfl (pc0 := 6) (pc' := 10) rfl (hb hby d6_6) (by decide) (by decide) ?_
      exact k
    obtain ⟨fs, hr, hrun, hended, hW, hsame⟩ := X0.leave (v := some (.int p6_0)) (fun h => by rw [Bd.returns] at h; cases h)
    refine ⟨_, _, k4 _ ?_, hrun, hended, _, _, rfl, ?_, ⟨_, rfl⟩, hW, hsame.mono (by decide) (by decide)⟩
    · exact retI X0 hx Bd.returns (hb hby d6_10) hr
    · show Q6 Z p6_0 p6_1 h0 n0 _ s₁.heap _
      rw [e0]
      exact ⟨congrArg (fun z => some (Value.int z)) (show (p6_0 : Int32) = own_min p6_0 p6_1 from by unfold own_min; rw [if_neg hc2_2]), N0, rfl⟩
theorem own_minr (n k : Int32) (h : ¬ n < k) : own_min n k = k := by
  unfold own_min
  by_cases q : k < n
  · rw [if_pos q]
  · rw [if_neg q]; simp only [own_lt, own_eqi] at *; omega
theorem own_tn (a b : Int32) (h : ¬ a < b) : b.toNatClampNeg ≤ a.toNatClampNeg := by
  rw [own_lt] at h; simp only [Int32.toNatClampNeg]; omega
theorem own_tn7 (b : Int32) (h : ¬ (7 : Int32) < b) : b.toNatClampNeg ≤ 7 := own_tn 7 b h
theorem pd_1 : parseMethodDescriptor "(II)V" = some ⟨[.int, .int], none⟩ := by decide +kernel
theorem pd_2 : parseMethodDescriptor "(II)I" = some ⟨[.int, .int], some .int⟩ := by decide +kernel
theorem d7_0 : decode jdk_65_method_133_code 0 = .ok (.iload_n 1, 1) := by decide +kernel
theorem d7_1 : decode jdk_65_method_133_code 1 = .ok (.iload_n 2, 1) := by decide +kernel
theorem d7_2 : decode jdk_65_method_133_code 2 = .ok (.invokestatic 343, 3) := by decide +kernel
theorem d7_5 : decode jdk_65_method_133_code 5 = .ok (.iload_n 2, 1) := by decide +kernel
theorem d7_6 : decode jdk_65_method_133_code 6 = .ok (.iload_n 1, 1) := by decide +kernel
theorem d7_7 : decode jdk_65_method_133_code 7 = .ok (.isub, 1) := by decide +kernel
theorem d7_8 : decode jdk_65_method_133_code 8 = .ok (.istore_n 3, 1) := by decide +kernel
theorem d7_9 : decode jdk_65_method_133_code 9 = .ok (.iload_n 3, 1) := by decide +kernel
theorem d7_10 : decode jdk_65_method_133_code 10 = .ok (.newarray .byte, 2) := by decide +kernel
theorem d7_12 : decode jdk_65_method_133_code 12 = .ok (.astore 4, 2) := by decide +kernel
theorem d7_14 : decode jdk_65_method_133_code 14 = .ok (.aload_n 0, 1) := by decide +kernel
theorem d7_15 : decode jdk_65_method_133_code 15 = .ok (.iload_n 1, 1) := by decide +kernel
theorem d7_16 : decode jdk_65_method_133_code 16 = .ok (.aload 4, 2) := by decide +kernel
theorem d7_18 : decode jdk_65_method_133_code 18 = .ok (.iconst 0, 1) := by decide +kernel
theorem d7_19 : decode jdk_65_method_133_code 19 = .ok (.aload_n 0, 1) := by decide +kernel
theorem d7_20 : decode jdk_65_method_133_code 20 = .ok (.arraylength, 1) := by decide +kernel
theorem d7_21 : decode jdk_65_method_133_code 21 = .ok (.iload_n 1, 1) := by decide +kernel
theorem d7_22 : decode jdk_65_method_133_code 22 = .ok (.isub, 1) := by decide +kernel
theorem d7_23 : decode jdk_65_method_133_code 23 = .ok (.iload_n 3, 1) := by decide +kernel
theorem d7_24 : decode jdk_65_method_133_code 24 = .ok (.invokestatic 304, 3) := by decide +kernel
theorem d7_27 : decode jdk_65_method_133_code 27 = .ok (.invokestatic 150, 3) := by decide +kernel
theorem d7_30 : decode jdk_65_method_133_code 30 = .ok (.aload 4, 2) := by decide +kernel
theorem d7_32 : decode jdk_65_method_133_code 32 = .ok (.areturn, 1) := by decide +kernel
theorem ef_7 (m : MethodId) (a7_0 : Addr) (p7_2 : Int32) : entryFrame m #[(.ref a7_0), (.int (0 : Int32)), (.int p7_2)] 5 = mkF m 0 #[.val (.ref a7_0), .val (.int (0 : Int32)), .val (.int p7_2), .unset, .unset] [] := by first | (simp [entryFrame, mkF, argsToLocals, Value.category]; done) | rfl
def Q7 (Z : State) (a7_0 : Addr) (p7_2 : Int32) (kk : ClassId) (nn : Int32) (h0 : Heap) (n0 : Nat) (v : Option Value) (h : Heap) (L : List Loc) : Prop := ∃ b7 : Nat, v = some (.ref b7) ∧ Fr n0 L ∧ Keep h0 h []
set_option maxRecDepth 65536 in
set_option maxHeartbeats 40000000 in
theorem rm7 (l : Launch) (Z : State) (a0 : Array Value) (hw : ∀ d ∈ tables_1, d.before a0 Z = true) (ws : List Jvm.Cond) (a7_0 : Addr) (p7_2 : Int32) (kk : ClassId) (nn : Int32) (h0 : Heap) (n0 : Nat) (Z0 : n0 ≤ h0.size) (V1 : Arv Z h0 a7_0 kk .byte nn [] (.int (0 : Int32))) (hp0 : ¬ (p7_2 < (0 : Int32))) (hpn : ¬ (nn < p7_2)) (hn7 : ¬ ((7 : Int32) < nn)) :
    MetFree l (⟨"java/util/Arrays", "copyOfRangeByte", "([BII)[B"⟩ : MethodName) (head1 (Jvm.Cond.code (⟨"java/util/Arrays", "copyOfRangeByte", "([BII)[B"⟩ : MethodName) jdk_65_method_133_code 5 (some (.array .byte)) :: ws) ({ frames := 1, cells := 1, slots := 7, locals := 40 } : Room)) (fun a U => a = #[(.ref a7_0), (.int (0 : Int32)), (.int p7_2)] ∧ Z.Warmed39 U.vm ∧ U.heap = h0) (fun _ _ _ _ _ => True) (fun _ U o U' => ∃ v L, o = .returned v ∧ Q7 Z a7_0 p7_2 kk nn h0 n0 v U'.heap L ∧ FrameEnd U o U' L ({ frames := 1, cells := 1, slots := 7, locals := 40 } : Room).cells ({ frames := 1, cells := 1, slots := 7, locals := 40 } : Room).slots) := by
  refine MetFree.of_bodySF (plainFor_of_name pn_1) hisR ?_
  intro p e s m args below meth c s₁ Bd hml0 hP hK
  obtain ⟨rfl, hZ, hh⟩ := hP
  have hx := Bd.exec
  have hby := Bd.bytes
  have hml : c.maxLocals = 5 := hml0
  have hown : s.vm.findClass "java/util/Arrays" = some m.cls := findClass_of_methodNamed Bd.named
  have hnm := (name_of_methodNamed Bd.named Bd.method).1
  have X0 : Stand p l e ({ frames := 1, cells := 1, slots := 7, locals := 40 } : Room) s m #[(.ref a7_0), (.int (0 : Int32)), (.int p7_2)] below meth c s₁ [] 0 0 := Stand.of_body Bd
  have e0 : s₁.heap = h0 := by rw [← hh, Bd.state]; rfl
  have N0 := Fr.nil n0
  have pre0 : ∀ t, Steps p.tables e below (s₁.setTop (mkF m 0 #[.val (.ref a7_0), .val (.int (0 : Int32)), .val (.int p7_2), .unset, .unset] [])) t → Steps p.tables e below (s₁.setTop (entryFrame m #[(.ref a7_0), (.int (0 : Int32)), (.int p7_2)] 5)) t := fun t k => castTop (ef_7 m a7_0 p7_2) k
  obtain ⟨_, _, ⟨T1, L1, k1, n1⟩, -, X1, ⟨Lc1, hQ1, l1, y1, z1⟩, st1⟩ := Jvm.LawKit.callS X0 hx (y := (⟨"java/util/Arrays", "checkLength", "(II)V"⟩ : MethodName)) hown (mvT hZ (hw _ (List.mem_of_getElem? (i := 50) rfl))) (mvT hZ (hw _ (List.mem_of_getElem? (i := 51) rfl))) (mvT hZ (hw _ (List.mem_of_getElem? (i := 36) rfl))) (mvT hZ (hw _ (List.mem_of_getElem? (i := 52) rfl))) (by decide) (backOf (W := 0) (rm5 l Z a0 hw [] p7_2 h0 n0 Z0 hp0) hZ (hw _ (List.mem_of_getElem? (i := 52) rfl)) (hw _ (List.mem_of_getElem? (i := 36) rfl)) (by decide) (by decide)) (g := (mkF m 2 #[.val (.ref a7_0), .val (.int (0 : Int32)), .val (.int p7_2), .unset, .unset] [(.int p7_2), (.int (0 : Int32))])) rfl (by rw [hml]; rfl) (argsL := [(.int (0 : Int32)), (.int p7_2)]) (rest := []) (lenOf pd_1 rfl) rfl (by show 2 * 0 + _ ≤ _; exact Nat.le_of_eq rfl) (hb hby d7_2) (fun _ _ => ⟨rfl, e0, (by decide : 0 + 0 ≤ _), (by decide : 0 + 0 ≤ _)⟩)
  dsimp only [Pt.U, Pt.locs, Pt.cells, Pt.slots] at X1 l1 y1 z1 st1 hQ1
  subst l1 y1 z1
  obtain ⟨rfl, N1q, eh1⟩ := hQ1
  have N1 := Fr.app N0 N1q
  have k2 : ∀ t, Steps p.tables e below (T1.setTop (mkF m 8 #[.val (.ref a7_0), .val (.int (0 : Int32)), .val (.int p7_2), .unset, .unset] [(.int (p7_2 - (0 : Int32)))])) t → Steps p.tables e below (s₁.setTop (entryFrame m #[(.ref a7_0), (.int (0 : Int32)), (.int p7_2)] 5)) t := by
    intro t k
    refine pre0 t ?_
    show Steps p.tables e below (s₁.setTop (mkF m 0 #[.val (.ref a7_0), .val (.int (0 : Int32)), .val (.int p7_2), .unset, .unset] [])) _
    refine XS.iloadN X0.here hx rfl (hb hby d7_0) rfl ?_
    show Steps p.tables e below (s₁.setTop (mkF m 1 #[.val (.ref a7_0), .val (.int (0 : Int32)), .val (.int p7_2), .unset, .unset] [(.int (0 : Int32))])) _
    refine XS.iloadN X0.here hx rfl (hb hby d7_1) rfl ?_
    show Steps p.tables e below (s₁.setTop (mkF m 2 #[.val (.ref a7_0), .val (.int (0 : Int32)), .val (.int p7_2), .unset, .unset] [(.int p7_2), (.int (0 : Int32))])) _
    refine st1 _ ?_
    show Steps p.tables e below (T1.setTop (mkF m 5 #[.val (.ref a7_0), .val (.int (0 : Int32)), .val (.int p7_2), .unset, .unset] [])) _
    refine XS.iloadN X1.here hx rfl (hb hby d7_5) rfl ?_
    show Steps p.tables e below (T1.setTop (mkF m 6 #[.val (.ref a7_0), .val (.int (0 : Int32)), .val (.int p7_2), .unset, .unset] [(.int p7_2)])) _
    refine XS.iloadN X1.here hx rfl (hb hby d7_6) rfl ?_
    show Steps p.tables e below (T1.setTop (mkF m 7 #[.val (.ref a7_0), .val (.int (0 : Int32)), .val (.int p7_2), .unset, .unset] [(.int (0 : Int32)), (.int p7_2)])) _
    refine XS.isub X1.here hx rfl (hb hby d7_7) rfl ?_
    exact k
  rw [show (p7_2 - (0 : Int32)) = p7_2 from Int32.sub_zero _] at k2
  obtain ⟨b3, g3⟩ : ∃ z, z = h0.size := ⟨_, rfl⟩
  obtain ⟨T3, h3, k3, X3, e3, E3, A3, st3⟩ := newP X1 hx hZ (hw _ (List.mem_of_getElem? (i := 1) rfl)) eh1 (g := (mkF m 10 #[.val (.ref a7_0), .val (.int (0 : Int32)), .val (.int p7_2), .val (.int p7_2), .unset] [(.int p7_2)])) rfl (hb hby d7_10) rfl hp0 (cap := 7) (Nat.le_trans (own_tn _ _ hpn) (own_tn7 _ hn7)) (by decide) (by decide) (by decide)
  rw [← g3] at A3 st3
  have ne4 : a7_0 ≠ b3 := Nat.ne_of_lt (Nat.lt_of_lt_of_le V1.lt (Nat.le_of_eq g3.symm))
  have gg3 : n0 ≤ b3 := Nat.le_trans Z0 (Nat.le_of_eq g3.symm)
  have sz3 : h0.size ≤ b3 := Nat.le_trans (Keep.refl h0 []).1 (Nat.le_of_eq g3.symm)
  have Zs3 : n0 ≤ h3.size := Nat.le_trans Z0 E3.1
  have K3 : Keep h0 h3 [] := (Keep.refl h0 []).ext E3
  have F5 : Arv Z h3 a7_0 kk .byte nn [] (.int (0 : Int32)) := V1.ext E3
  have V3 : Arv Z h3 b3 k3 .byte p7_2 [(.int (0 : Int32)), (.int (0 : Int32)), (.int (0 : Int32)), (.int (0 : Int32)), (.int (0 : Int32)), (.int (0 : Int32)), (.int (0 : Int32))] (.int (0 : Int32)) := (Arv.new A3 hp0).pad (pad_rep [] (.int (0 : Int32)) 7)
  obtain ⟨cl6, Ar6, qc6, Sz6, Nn6, Hh6, Gg6⟩ := (id F5)
  have k7 : ∀ t, Steps p.tables e below (T3.setTop (mkF m 23 #[.val (.ref a7_0), .val (.int (0 : Int32)), .val (.int p7_2), .val (.int p7_2), .val (.ref b3)] [(.int (nn - (0 : Int32))), (.int (0 : Int32)), (.ref b3), (.int (0 : Int32)), (.ref a7_0)])) t → Steps p.tables e below (s₁.setTop (entryFrame m #[(.ref a7_0), (.int (0 : Int32)), (.int p7_2)] 5)) t := by
    intro t k
    refine k2 t ?_
    show Steps p.tables e below (T1.setTop (mkF m 8 #[.val (.ref a7_0), .val (.int (0 : Int32)), .val (.int p7_2), .unset, .unset] [(.int p7_2)])) _
    refine XS.istoreN X1.here hx rfl (hb hby d7_8) rfl (l' := #[.val (.ref a7_0), .val (.int (0 : Int32)), .val (.int p7_2), .val (.int p7_2), .unset]) rfl ?_
    show Steps p.tables e below (T1.setTop (mkF m 9 #[.val (.ref a7_0), .val (.int (0 : Int32)), .val (.int p7_2), .val (.int p7_2), .unset] [])) _
    refine XS.iloadN X1.here hx rfl (hb hby d7_9) rfl ?_
    show Steps p.tables e below (T1.setTop (mkF m 10 #[.val (.ref a7_0), .val (.int (0 : Int32)), .val (.int p7_2), .val (.int p7_2), .unset] [(.int p7_2)])) _
    refine st3 _ ?_
    show Steps p.tables e below (T3.setTop (mkF m 12 #[.val (.ref a7_0), .val (.int (0 : Int32)), .val (.int p7_2), .val (.int p7_2), .unset] [(.ref b3)])) _
    refine XS.astore X3.here hx rfl (hb hby d7_12) rfl rfl (l' := #[.val (.ref a7_0), .val (.int (0 : Int32)), .val (.int p7_2), .val (.int p7_2), .val (.ref b3)]) rfl ?_
    show Steps p.tables e below (T3.setTop (mkF m 14 #[.val (.ref a7_0), .val (.int (0 : Int32)), .val (.int p7_2), .val (.int p7_2), .val (.ref b3)] [])) _
    refine XS.aloadN X3.here hx rfl (hb hby d7_14) rfl rfl ?_
    show Steps p.tables e below (T3.setTop (mkF m 15 #[.val (.ref a7_0), .val (.int (0 : Int32)), .val (.int p7_2), .val (.int p7_2), .val (.ref b3)] [(.ref a7_0)])) _
    refine XS.iloadN X3.here hx rfl (hb hby d7_15) rfl ?_
    show Steps p.tables e below (T3.setTop (mkF m 16 #[.val (.ref a7_0), .val (.int (0 : Int32)), .val (.int p7_2), .val (.int p7_2), .val (.ref b3)] [(.int (0 : Int32)), (.ref a7_0)])) _
    refine XS.aload X3.here hx rfl (hb hby d7_16) rfl rfl ?_
    show Steps p.tables e below (T3.setTop (mkF m 18 #[.val (.ref a7_0), .val (.int (0 : Int32)), .val (.int p7_2), .val (.int p7_2), .val (.ref b3)] [(.ref b3), (.int (0 : Int32)), (.ref a7_0)])) _
    refine XS.iconst X3.here hx rfl (hb hby d7_18) ?_
    show Steps p.tables e below (T3.setTop (mkF m 19 #[.val (.ref a7_0), .val (.int (0 : Int32)), .val (.int p7_2), .val (.int p7_2), .val (.ref b3)] [(.int (0 : Int32)), (.ref b3), (.int (0 : Int32)), (.ref a7_0)])) _
    refine XS.aloadN X3.here hx rfl (hb hby d7_19) rfl rfl ?_
    show Steps p.tables e below (T3.setTop (mkF m 20 #[.val (.ref a7_0), .val (.int (0 : Int32)), .val (.int p7_2), .val (.int p7_2), .val (.ref b3)] [(.ref a7_0), (.int (0 : Int32)), (.ref b3), (.int (0 : Int32)), (.ref a7_0)])) _
    refine X3.arraylength hx (by rw [e3]; exact Ar6.1) (State.isArrayOf_alike hZ.alike Ar6.2.1) (g := (mkF m 20 #[.val (.ref a7_0), .val (.int (0 : Int32)), .val (.int p7_2), .val (.int p7_2), .val (.ref b3)] [(.ref a7_0), (.int (0 : Int32)), (.ref b3), (.int (0 : Int32)), (.ref a7_0)])) rfl rfl (hb hby d7_20) _ ?_
    rw [len_of Sz6 Nn6]
    show Steps p.tables e below (T3.setTop (mkF m 21 #[.val (.ref a7_0), .val (.int (0 : Int32)), .val (.int p7_2), .val (.int p7_2), .val (.ref b3)] [(.int nn), (.int (0 : Int32)), (.ref b3), (.int (0 : Int32)), (.ref a7_0)])) _
    refine XS.iloadN X3.here hx rfl (hb hby d7_21) rfl ?_
    show Steps p.tables e below (T3.setTop (mkF m 22 #[.val (.ref a7_0), .val (.int (0 : Int32)), .val (.int p7_2), .val (.int p7_2), .val (.ref b3)] [(.int (0 : Int32)), (.int nn), (.int (0 : Int32)), (.ref b3), (.int (0 : Int32)), (.ref a7_0)])) _
    refine XS.isub X3.here hx rfl (hb hby d7_22) rfl ?_
    exact k
  rw [show (nn - (0 : Int32)) = nn from Int32.sub_zero _] at k7
  obtain ⟨_, _, ⟨T8, L8, k8, n8⟩, -, X8, ⟨Lc8, hQ8, l8, y8, z8⟩, st8⟩ := Jvm.LawKit.callS X3 hx (y := (⟨"java/lang/Math", "min", "(II)I"⟩ : MethodName)) hown (mvT hZ (hw _ (List.mem_of_getElem? (i := 53) rfl))) (mvT hZ (hw _ (List.mem_of_getElem? (i := 54) rfl))) (mvT hZ (hw _ (List.mem_of_getElem? (i := 55) rfl))) (mvT hZ (hw _ (List.mem_of_getElem? (i := 56) rfl))) (by decide) (backOf (W := 4) (rm6 l Z a0 hw [] nn p7_2 h3 n0 Zs3 ) hZ (hw _ (List.mem_of_getElem? (i := 56) rfl)) (hw _ (List.mem_of_getElem? (i := 55) rfl)) (by decide) (by decide)) (g := (mkF m 24 #[.val (.ref a7_0), .val (.int (0 : Int32)), .val (.int p7_2), .val (.int p7_2), .val (.ref b3)] [(.int p7_2), (.int nn), (.int (0 : Int32)), (.ref b3), (.int (0 : Int32)), (.ref a7_0)])) rfl (by rw [hml]; rfl) (argsL := [(.int nn), (.int p7_2)]) (rest := [(.int (0 : Int32)), (.ref b3), (.int (0 : Int32)), (.ref a7_0)]) (lenOf pd_2 rfl) rfl (by show 2 * 0 + _ ≤ _; exact Nat.le_of_eq rfl) (hb hby d7_24) (fun _ _ => ⟨rfl, e3, (by decide : 1 + 0 ≤ _), (by decide : 7 + 0 ≤ _)⟩)
  dsimp only [Pt.U, Pt.locs, Pt.cells, Pt.slots] at X8 l8 y8 z8 st8 hQ8
  subst l8 y8 z8
  obtain ⟨rfl, N8q, eh8⟩ := hQ8
  have N8 := Fr.app N1 N8q
  have k9 : ∀ t, Steps p.tables e below (T8.setTop (mkF m 27 #[.val (.ref a7_0), .val (.int (0 : Int32)), .val (.int p7_2), .val (.int p7_2), .val (.ref b3)] [(.int (own_min nn p7_2)), (.int (0 : Int32)), (.ref b3), (.int (0 : Int32)), (.ref a7_0)])) t → Steps p.tables e below (s₁.setTop (entryFrame m #[(.ref a7_0), (.int (0 : Int32)), (.int p7_2)] 5)) t := by
    intro t k
    refine k7 t ?_
    show Steps p.tables e below (T3.setTop (mkF m 23 #[.val (.ref a7_0), .val (.int (0 : Int32)), .val (.int p7_2), .val (.int p7_2), .val (.ref b3)] [(.int nn), (.int (0 : Int32)), (.ref b3), (.int (0 : Int32)), (.ref a7_0)])) _
    refine XS.iloadN X3.here hx rfl (hb hby d7_23) rfl ?_
    show Steps p.tables e below (T3.setTop (mkF m 24 #[.val (.ref a7_0), .val (.int (0 : Int32)), .val (.int p7_2), .val (.int p7_2), .val (.ref b3)] [(.int p7_2), (.int nn), (.int (0 : Int32)), (.ref b3), (.int (0 : Int32)), (.ref a7_0)])) _
    refine st8 _ ?_
    exact k
  rw [show (own_min nn p7_2) = p7_2 from own_minr _ _ hpn] at k9
  obtain ⟨T10, h10, L10, X10, e10, N10, Kc10, V10, st10⟩ := cpA X8 hx hZ hown (hw _ (List.mem_of_getElem? (i := 57) rfl)) (hw _ (List.mem_of_getElem? (i := 60) rfl)) (hw _ (List.mem_of_getElem? (i := 58) rfl)) (hw _ (List.mem_of_getElem? (i := 59) rfl)) eh8 F5 V3 (Or.inl ⟨rfl, rfl⟩) (by decide) (by decide) hp0 (by rw [show (0 : Int32).toNatClampNeg = 0 from rfl, Nat.zero_add]; exact own_tn _ _ hpn) (by rw [show (0 : Int32).toNatClampNeg = 0 from rfl, Nat.zero_add]; exact Nat.le_refl _) rfl (by rw [show (0 : Int32).toNatClampNeg = 0 from rfl, Nat.zero_add]; exact Nat.le_trans (own_tn _ _ hpn) (own_tn7 _ hn7)) N8 gg3 (g := (mkF m 27 #[.val (.ref a7_0), .val (.int (0 : Int32)), .val (.int p7_2), .val (.int p7_2), .val (.ref b3)] [(.int p7_2), (.int (0 : Int32)), (.ref b3), (.int (0 : Int32)), (.ref a7_0)])) rfl (by rw [hml]; rfl) rfl (hb hby d7_27) (by decide) (W := 0) (by show 2 * 0 + _ ≤ _; exact Nat.le_of_eq rfl) (by decide)
  have Zs10 : n0 ≤ h10.size := Nat.le_trans Zs3 Kc10.1
  have K10 : Keep h0 h10 [] := K3.trans Kc10 (allS (Or.inr sz3) all0)
  have F11 : Arv Z h10 a7_0 kk .byte nn [] (.int (0 : Int32)) := F5.keep Kc10 (ninS ne4 nin0)
  have k13 : ∀ t, Steps p.tables e below (T10.setTop (mkF m 32 #[.val (.ref a7_0), .val (.int (0 : Int32)), .val (.int p7_2), .val (.int p7_2), .val (.ref b3)] [(.ref b3)])) t → Steps p.tables e below (s₁.setTop (entryFrame m #[(.ref a7_0), (.int (0 : Int32)), (.int p7_2)] 5)) t := by
    intro t k
    refine k9 t ?_
    show Steps p.tables e below (T8.setTop (mkF m 27 #[.val (.ref a7_0), .val (.int (0 : Int32)), .val (.int p7_2), .val (.int p7_2), .val (.ref b3)] [(.int p7_2), (.int (0 : Int32)), (.ref b3), (.int (0 : Int32)), (.ref a7_0)])) _
    refine st10 _ ?_
    show Steps p.tables e below (T10.setTop (mkF m 30 #[.val (.ref a7_0), .val (.int (0 : Int32)), .val (.int p7_2), .val (.int p7_2), .val (.ref b3)] [])) _
    refine XS.aload X10.here hx rfl (hb hby d7_30) rfl rfl ?_
    exact k
  obtain ⟨fs, hr, hrun, hended, hW, hsame⟩ := X10.leave (v := some (.ref b3)) (fun h => by rw [Bd.returns] at h; cases h)
  refine ⟨_, _, k13 _ ?_, hrun, hended, _, _, rfl, ?_, ⟨_, rfl⟩, hW, hsame.mono (by decide) (by decide)⟩
  · exact retOut X10 hx Bd.returns rfl (Or.inr (Or.inr (Or.inr (Or.inr ⟨rfl, rfl, rfl⟩)))) (hb hby d7_32) hr
  · show Q7 Z a7_0 p7_2 kk nn h0 n0 _ T10.heap _
    rw [e10]
    exact ⟨b3, rfl, N10, K10⟩
theorem pd_3 : parseMethodDescriptor "([BII)[B" = some ⟨[(.array .byte), .int, .int], some (.array .byte)⟩ := by decide +kernel
theorem d8_0 : decode jdk_65_method_132_code 0 = .ok (.iload_n 1, 1) := by decide +kernel
theorem d8_1 : decode jdk_65_method_132_code 1 = .ok (.ifCond .ne 9, 3) := by decide +kernel
theorem d8_4 : decode jdk_65_method_132_code 4 = .ok (.iload_n 2, 1) := by decide +kernel
theorem d8_5 : decode jdk_65_method_132_code 5 = .ok (.aload_n 0, 1) := by decide +kernel
theorem d8_6 : decode jdk_65_method_132_code 6 = .ok (.arraylength, 1) := by decide +kernel
theorem d8_7 : decode jdk_65_method_132_code 7 = .ok (.if_icmp .eq 10, 3) := by decide +kernel
theorem d8_10 : decode jdk_65_method_132_code 10 = .ok (.aload_n 0, 1) := by decide +kernel
theorem d8_11 : decode jdk_65_method_132_code 11 = .ok (.iload_n 1, 1) := by decide +kernel
theorem d8_12 : decode jdk_65_method_132_code 12 = .ok (.iload_n 2, 1) := by decide +kernel
theorem d8_13 : decode jdk_65_method_132_code 13 = .ok (.invokestatic 339, 3) := by decide +kernel
theorem d8_16 : decode jdk_65_method_132_code 16 = .ok (.areturn, 1) := by decide +kernel
theorem d8_17 : decode jdk_65_method_132_code 17 = .ok (.aload_n 0, 1) := by decide +kernel
theorem d8_18 : decode jdk_65_method_132_code 18 = .ok (.invokevirtual 310, 3) := by decide +kernel
theorem d8_21 : decode jdk_65_method_132_code 21 = .ok (.checkcast 311, 3) := by decide +kernel
theorem d8_24 : decode jdk_65_method_132_code 24 = .ok (.areturn, 1) := by decide +kernel
theorem ef_8 (m : MethodId) (a8_0 : Addr) (p8_2 : Int32) : entryFrame m #[(.ref a8_0), (.int (0 : Int32)), (.int p8_2)] 3 = mkF m 0 #[.val (.ref a8_0), .val (.int (0 : Int32)), .val (.int p8_2)] [] := by first | (simp [entryFrame, mkF, argsToLocals, Value.category]; done) | rfl
def Q8 (Z : State) (a8_0 : Addr) (p8_2 : Int32) (kk : ClassId) (nn : Int32) (h0 : Heap) (n0 : Nat) (v : Option Value) (h : Heap) (L : List Loc) : Prop := ∃ b8 : Nat, v = some (.ref b8) ∧ Fr n0 L ∧ Keep h0 h []
set_option maxRecDepth 65536 in
set_option maxHeartbeats 40000000 in
theorem rm8 (l : Launch) (Z : State) (a0 : Array Value) (hw : ∀ d ∈ tables_1, d.before a0 Z = true) (ws : List Jvm.Cond) (a8_0 : Addr) (p8_2 : Int32) (kk : ClassId) (nn : Int32) (h0 : Heap) (n0 : Nat) (Z0 : n0 ≤ h0.size) (V1 : Arv Z h0 a8_0 kk .byte nn [] (.int (0 : Int32))) (E1 : Exa Z h0 a8_0 "[B") (hp0 : ¬ (p8_2 < (0 : Int32))) (hpn : ¬ (nn < p8_2)) (hn7 : ¬ ((7 : Int32) < nn)) :
    MetFree l (⟨"java/util/Arrays", "copyOfRange", "([BII)[B"⟩ : MethodName) (head1 (Jvm.Cond.code (⟨"java/util/Arrays", "copyOfRange", "([BII)[B"⟩ : MethodName) jdk_65_method_132_code 3 (some (.array .byte)) :: ws) ({ frames := 2, cells := 1, slots := 7, locals := 56 } : Room)) (fun a U => a = #[(.ref a8_0), (.int (0 : Int32)), (.int p8_2)] ∧ Z.Warmed39 U.vm ∧ U.heap = h0) (fun _ _ _ _ _ => True) (fun _ U o U' => ∃ v L, o = .returned v ∧ Q8 Z a8_0 p8_2 kk nn h0 n0 v U'.heap L ∧ FrameEnd U o U' L ({ frames := 2, cells := 1, slots := 7, locals := 56 } : Room).cells ({ frames := 2, cells := 1, slots := 7, locals := 56 } : Room).slots) := by
  refine MetFree.of_bodySF (plainFor_of_name pn_1) hisR ?_
  intro p e s m args below meth c s₁ Bd hml0 hP hK
  obtain ⟨rfl, hZ, hh⟩ := hP
  have hx := Bd.exec
  have hby := Bd.bytes
  have hml : c.maxLocals = 3 := hml0
  have hown : s.vm.findClass "java/util/Arrays" = some m.cls := findClass_of_methodNamed Bd.named
  have hnm := (name_of_methodNamed Bd.named Bd.method).1
  have X0 : Stand p l e ({ frames := 2, cells := 1, slots := 7, locals := 56 } : Room) s m #[(.ref a8_0), (.int (0 : Int32)), (.int p8_2)] below meth c s₁ [] 0 0 := Stand.of_body Bd
  have e0 : s₁.heap = h0 := by rw [← hh, Bd.state]; rfl
  have N0 := Fr.nil n0
  have pre0 : ∀ t, Steps p.tables e below (s₁.setTop (mkF m 0 #[.val (.ref a8_0), .val (.int (0 : Int32)), .val (.int p8_2)] [])) t → Steps p.tables e below (s₁.setTop (entryFrame m #[(.ref a8_0), (.int (0 : Int32)), (.int p8_2)] 3)) t := fun t k => castTop (ef_8 m a8_0 p8_2) k
  obtain ⟨cl1, Ar1, qc1, Sz1, Nn1, Hh1, Gg1⟩ := (id V1)
  have k2 : ∀ t, Steps p.tables e below (s₁.setTop (mkF m 7 #[.val (.ref a8_0), .val (.int (0 : Int32)), .val (.int p8_2)] [(.int nn), (.int p8_2)])) t → Steps p.tables e below (s₁.setTop (entryFrame m #[(.ref a8_0), (.int (0 : Int32)), (.int p8_2)] 3)) t := by
    intro t k
    refine pre0 t ?_
    show Steps p.tables e below (s₁.setTop (mkF m 0 #[.val (.ref a8_0), .val (.int (0 : Int32)), .val (.int p8_2)] [])) _
    refine XS.iloadN X0.here hx rfl (hb hby d8_0) rfl ?_
    show Steps p.tables e below (s₁.setTop (mkF m 1 #[.val (.ref a8_0), .val (.int (0 : Int32)), .val (.int p8_2)] [(.int (0 : Int32))])) _
    refine XS.ifNo X0.here hx rfl (hb hby d8_1) rfl ((if0 _ _).trans (teq (by decide : (0 : Int32) = (0 : Int32))).2) ?_
    show Steps p.tables e below (s₁.setTop (mkF m 4 #[.val (.ref a8_0), .val (.int (0 : Int32)), .val (.int p8_2)] [])) _
    refine XS.iloadN X0.here hx rfl (hb hby d8_4) rfl ?_
    show Steps p.tables e below (s₁.setTop (mkF m 5 #[.val (.ref a8_0), .val (.int (0 : Int32)), .val (.int p8_2)] [(.int p8_2)])) _
    refine XS.aloadN X0.here hx rfl (hb hby d8_5) rfl rfl ?_
    show Steps p.tables e below (s₁.setTop (mkF m 6 #[.val (.ref a8_0), .val (.int (0 : Int32)), .val (.int p8_2)] [(.ref a8_0), (.int p8_2)])) _
    refine X0.arraylength hx (by rw [e0]; exact Ar1.1) (State.isArrayOf_alike hZ.alike Ar1.2.1) (g := (mkF m 6 #[.val (.ref a8_0), .val (.int (0 : Int32)), .val (.int p8_2)] [(.ref a8_0), (.int p8_2)])) rfl rfl (hb hby d8_6) _ ?_
    rw [len_of Sz1 Nn1]
    exact k
  by_cases hc7_3 : p8_2 = nn
  · skip
    obtain ⟨b4, g4⟩ : ∃ z, z = h0.size := ⟨_, rfl⟩
    obtain ⟨T4, h4, X4, e4, E4, V4, A4, st4⟩ := cloneH X0 hx hZ hown (hw _ (List.mem_of_getElem? (i := 38) rfl)) (hw _ (List.mem_of_getElem? (i := 39) rfl)) (hw _ (List.mem_of_getElem? (i := 43) rfl)) (hw _ (List.mem_of_getElem? (i := 41) rfl)) (hw _ (List.mem_of_getElem? (i := 42) rfl)) (hw _ (List.mem_of_getElem? (i := 44) rfl)) e0 (Arv.arh V1) E1 (g := (mkF m 18 #[.val (.ref a8_0), .val (.int (0 : Int32)), .val (.int p8_2)] [(.ref a8_0)])) rfl (by rw [hml]; rfl) rfl (hb hby d8_18) (by decide) (W := 0) (cap := 7) (by show 2 * 0 + _ ≤ _; exact Nat.le_of_eq rfl) (by decide) (own_tn7 _ hn7) (by decide) (by decide)
    rw [← g4] at V4 A4 st4
    have ne5 : a8_0 ≠ b4 := Nat.ne_of_lt (Nat.lt_of_lt_of_le V1.lt (Nat.le_of_eq g4.symm))
    have gg4 : n0 ≤ b4 := Nat.le_trans Z0 (Nat.le_of_eq g4.symm)
    have sz4 : h0.size ≤ b4 := Nat.le_trans (Keep.refl h0 []).1 (Nat.le_of_eq g4.symm)
    have Zs4 : n0 ≤ h4.size := Nat.le_trans Z0 E4.1
    have K4 : Keep h0 h4 [] := (Keep.refl h0 []).ext E4
    have F6 : Arv Z h4 a8_0 kk .byte nn [] (.int (0 : Int32)) := V1.ext E4
    have F7 : Exa Z h4 a8_0 "[B" := E1.ext E4
    have Va4 : Arv Z h4 b4 kk .byte nn [] (.int (0 : Int32)) := V4
    obtain ⟨T8, X8, e8, st8⟩ := castY X4 hx hZ hown (hw _ (List.mem_of_getElem? (i := 45) rfl)) e4 (Ins.self A4) (g := (mkF m 21 #[.val (.ref a8_0), .val (.int (0 : Int32)), .val (.int p8_2)] [(.ref b4)])) rfl rfl (hb hby d8_21)
    have k9 : ∀ t, Steps p.tables e below (T8.setTop (mkF m 24 #[.val (.ref a8_0), .val (.int (0 : Int32)), .val (.int p8_2)] [(.ref b4)])) t → Steps p.tables e below (s₁.setTop (entryFrame m #[(.ref a8_0), (.int (0 : Int32)), (.int p8_2)] 3)) t := by
      intro t k
      refine k2 t ?_
      show Steps p.tables e below (s₁.setTop (mkF m 7 #[.val (.ref a8_0), .val (.int (0 : Int32)), .val (.int p8_2)] [(.int nn), (.int p8_2)])) _
      refine XS.icmpYes X0.here hx rfl (pc0 := 7) (pc' := 17) rfl (hb hby d8_7) rfl (teq hc7_3).1 (by decide) (by decide) ?_
      show Steps p.tables e below (s₁.setTop (mkF m 17 #[.val (.ref a8_0), .val (.int (0 : Int32)), .val (.int p8_2)] [])) _
      refine XS.aloadN X0.here hx rfl (hb hby d8_17) rfl rfl ?_
      show Steps p.tables e below (s₁.setTop (mkF m 18 #[.val (.ref a8_0), .val (.int (0 : Int32)), .val (.int p8_2)] [(.ref a8_0)])) _
      refine st4 _ ?_
      show Steps p.tables e below (T4.setTop (mkF m 21 #[.val (.ref a8_0), .val (.int (0 : Int32)), .val (.int p8_2)] [(.ref b4)])) _
      refine st8 _ ?_
      exact k
    obtain ⟨fs, hr, hrun, hended, hW, hsame⟩ := X8.leave (v := some (.ref b4)) (fun h => by rw [Bd.returns] at h; cases h)
    refine ⟨_, _, k9 _ ?_, hrun, hended, _, _, rfl, ?_, ⟨_, rfl⟩, hW, hsame.mono (by decide) (by decide)⟩
    · exact retOut X8 hx Bd.returns rfl (Or.inr (Or.inr (Or.inr (Or.inr ⟨rfl, rfl, rfl⟩)))) (hb hby d8_24) hr
    · show Q8 Z a8_0 p8_2 kk nn h0 n0 _ T8.heap _
      rw [e8]
      exact ⟨b4, rfl, N0, K4⟩
  · skip
    obtain ⟨_, _, ⟨T10, L10, k10, n10⟩, -, X10, ⟨Lc10, hQ10, l10, y10, z10⟩, st10⟩ := Jvm.LawKit.callS X0 hx (y := (⟨"java/util/Arrays", "copyOfRangeByte", "([BII)[B"⟩ : MethodName)) hown (mvT hZ (hw _ (List.mem_of_getElem? (i := 47) rfl))) (mvT hZ (hw _ (List.mem_of_getElem? (i := 48) rfl))) (mvT hZ (hw _ (List.mem_of_getElem? (i := 36) rfl))) (mvT hZ (hw _ (List.mem_of_getElem? (i := 49) rfl))) (by decide) (backOf (W := 0) (rm7 l Z a0 hw [] a8_0 p8_2 kk nn h0 n0 Z0 V1 hp0 hpn hn7) hZ (hw _ (List.mem_of_getElem? (i := 49) rfl)) (hw _ (List.mem_of_getElem? (i := 36) rfl)) (by decide) (by decide)) (g := (mkF m 13 #[.val (.ref a8_0), .val (.int (0 : Int32)), .val (.int p8_2)] [(.int p8_2), (.int (0 : Int32)), (.ref a8_0)])) rfl (by rw [hml]; rfl) (argsL := [(.ref a8_0), (.int (0 : Int32)), (.int p8_2)]) (rest := []) (lenOf pd_3 rfl) rfl (by show 2 * 0 + _ ≤ _; exact Nat.le_of_eq rfl) (hb hby d8_13) (fun _ _ => ⟨rfl, e0, (by decide : 0 + 1 ≤ _), (by decide : 0 + 7 ≤ _)⟩)
    dsimp only [Pt.U, Pt.locs, Pt.cells, Pt.slots] at X10 l10 y10 z10 st10 hQ10
    subst l10 y10 z10
    obtain ⟨b7_10, rfl, N10q, Kc10⟩ := hQ10
    have Zs10 : n0 ≤ T10.heap.size := Nat.le_trans Z0 Kc10.1
    have K10 : Keep h0 T10.heap [] := (Keep.refl h0 []).trans Kc10 all0
    have F11 : Arv Z T10.heap a8_0 kk .byte nn [] (.int (0 : Int32)) := V1.keep Kc10 nin0
    have F12 : Exa Z T10.heap a8_0 "[B" := E1.keep Kc10
    have N10 := Fr.app N0 N10q
    have k13 : ∀ t, Steps p.tables e below (T10.setTop (mkF m 16 #[.val (.ref a8_0), .val (.int (0 : Int32)), .val (.int p8_2)] [(.ref b7_10)])) t → Steps p.tables e below (s₁.setTop (entryFrame m #[(.ref a8_0), (.int (0 : Int32)), (.int p8_2)] 3)) t := by
      intro t k
      refine k2 t ?_
      show Steps p.tables e below (s₁.setTop (mkF m 7 #[.val (.ref a8_0), .val (.int (0 : Int32)), .val (.int p8_2)] [(.int nn), (.int p8_2)])) _
      refine XS.icmpNo X0.here hx rfl (hb hby d8_7) rfl (feq hc7_3).1 ?_
      show Steps p.tables e below (s₁.setTop (mkF m 10 #[.val (.ref a8_0), .val (.int (0 : Int32)), .val (.int p8_2)] [])) _
      refine XS.aloadN X0.here hx rfl (hb hby d8_10) rfl rfl ?_
      show Steps p.tables e below (s₁.setTop (mkF m 11 #[.val (.ref a8_0), .val (.int (0 : Int32)), .val (.int p8_2)] [(.ref a8_0)])) _
      refine XS.iloadN X0.here hx rfl (hb hby d8_11) rfl ?_
      show Steps p.tables e below (s₁.setTop (mkF m 12 #[.val (.ref a8_0), .val (.int (0 : Int32)), .val (.int p8_2)] [(.int (0 : Int32)), (.ref a8_0)])) _
      refine XS.iloadN X0.here hx rfl (hb hby d8_12) rfl ?_
      show Steps p.tables e below (s₁.setTop (mkF m 13 #[.val (.ref a8_0), .val (.int (0 : Int32)), .val (.int p8_2)] [(.int p8_2), (.int (0 : Int32)), (.ref a8_0)])) _
      refine st10 _ ?_
      exact k
    obtain ⟨fs, hr, hrun, hended, hW, hsame⟩ := X10.leave (v := some (.ref b7_10)) (fun h => by rw [Bd.returns] at h; cases h)
    refine ⟨_, _, k13 _ ?_, hrun, hended, _, _, rfl, ?_, ⟨_, rfl⟩, hW, hsame.mono (by decide) (by decide)⟩
    · exact retOut X10 hx Bd.returns rfl (Or.inr (Or.inr (Or.inr (Or.inr ⟨rfl, rfl, rfl⟩)))) (hb hby d8_16) hr
    · show Q8 Z a8_0 p8_2 kk nn h0 n0 _ T10.heap _
      exact ⟨b7_10, rfl, N10, K10⟩
theorem pd_4 : parseMethodDescriptor "(I)V" = some ⟨[.int], none⟩ := by decide +kernel
theorem d9_0 : decode prog_14_method_9_code 0 = .ok (.aload_n 0, 1) := by decide +kernel
theorem d9_1 : decode prog_14_method_9_code 1 = .ok (.iload_n 1, 1) := by decide +kernel
theorem d9_2 : decode prog_14_method_9_code 2 = .ok (.invokevirtual 17, 3) := by decide +kernel
theorem d9_5 : decode prog_14_method_9_code 5 = .ok (.aload_n 0, 1) := by decide +kernel
theorem d9_6 : decode prog_14_method_9_code 6 = .ok (.getfield 7, 3) := by decide +kernel
theorem d9_9 : decode prog_14_method_9_code 9 = .ok (.aload_n 0, 1) := by decide +kernel
theorem d9_10 : decode prog_14_method_9_code 10 = .ok (.getfield 13, 3) := by decide +kernel
theorem d9_13 : decode prog_14_method_9_code 13 = .ok (.aload_n 0, 1) := by decide +kernel
theorem d9_14 : decode prog_14_method_9_code 14 = .ok (.getfield 13, 3) := by decide +kernel
theorem d9_17 : decode prog_14_method_9_code 17 = .ok (.iload_n 1, 1) := by decide +kernel
theorem d9_18 : decode prog_14_method_9_code 18 = .ok (.iadd, 1) := by decide +kernel
theorem d9_19 : decode prog_14_method_9_code 19 = .ok (.invokestatic 33, 3) := by decide +kernel
theorem d9_22 : decode prog_14_method_9_code 22 = .ok (.astore_n 2, 1) := by decide +kernel
theorem d9_23 : decode prog_14_method_9_code 23 = .ok (.aload_n 0, 1) := by decide +kernel
theorem d9_24 : decode prog_14_method_9_code 24 = .ok (.dup, 1) := by decide +kernel
theorem d9_25 : decode prog_14_method_9_code 25 = .ok (.getfield 13, 3) := by decide +kernel
theorem d9_28 : decode prog_14_method_9_code 28 = .ok (.iload_n 1, 1) := by decide +kernel
theorem d9_29 : decode prog_14_method_9_code 29 = .ok (.iadd, 1) := by decide +kernel
theorem d9_30 : decode prog_14_method_9_code 30 = .ok (.putfield 13, 3) := by decide +kernel
theorem d9_33 : decode prog_14_method_9_code 33 = .ok (.aload_n 2, 1) := by decide +kernel
theorem d9_34 : decode prog_14_method_9_code 34 = .ok (.areturn, 1) := by decide +kernel
theorem ef_9 (m : MethodId) (a9_0 : Addr) (p9_1 : Int32) : entryFrame m #[(.ref a9_0), (.int p9_1)] 3 = mkF m 0 #[.val (.ref a9_0), .val (.int p9_1), .unset] [] := by first | (simp [entryFrame, mkF, argsToLocals, Value.category]; done) | rfl
def Q9 (Z : State) (a9_0 : Addr) (p9_1 : Int32) (ar : Addr) (kk : ClassId) (nn : Int32) (h0 : Heap) (n0 : Nat) (v : Option Value) (h : Heap) (L : List Loc) : Prop := ∃ b9 : Nat, v = some (.ref b9) ∧ Fr n0 L ∧ Keep h0 h [a9_0] ∧ Exa Z h a9_0 "com/example/ratatoskr/ratatoskr/io/FrameReader" ∧ Fld Z h a9_0 "com/example/ratatoskr/ratatoskr/io/FrameReader" "index" "I" (.int p9_1) ∧ Fld Z h a9_0 "com/example/ratatoskr/ratatoskr/io/FrameReader" "bytes" "[B" (.ref ar)
set_option maxRecDepth 65536 in
set_option maxHeartbeats 40000000 in
theorem rm9 (l : Launch) (Z : State) (a0 : Array Value) (hw : ∀ d ∈ tables_1, d.before a0 Z = true) (ws : List Jvm.Cond) (a9_0 : Addr) (p9_1 : Int32) (ar : Addr) (kk : ClassId) (nn : Int32) (h0 : Heap) (n0 : Nat) (Z0 : n0 ≤ h0.size) (Ea : Exa Z h0 a9_0 "com/example/ratatoskr/ratatoskr/io/FrameReader") (F1 : Fld Z h0 a9_0 "com/example/ratatoskr/ratatoskr/io/FrameReader" "index" "I" (.int (0 : Int32))) (F2 : Fld Z h0 a9_0 "com/example/ratatoskr/ratatoskr/io/FrameReader" "bytes" "[B" (.ref ar)) (V1 : Arv Z h0 ar kk .byte nn [] (.int (0 : Int32))) (E1 : Exa Z h0 ar "[B") (hp0 : ¬ (p9_1 < (0 : Int32))) (hpn : ¬ (nn < p9_1)) (hn7 : ¬ ((7 : Int32) < nn)) (hne : ar ≠ a9_0) (g_a9_0 : n0 ≤ a9_0) :
    MetFree l (⟨"com/example/ratatoskr/ratatoskr/io/FrameReader", "readBytes", "(I)[B"⟩ : MethodName) (head1 (Jvm.Cond.code (⟨"com/example/ratatoskr/ratatoskr/io/FrameReader", "readBytes", "(I)[B"⟩ : MethodName) prog_14_method_9_code 3 (some (.array .byte)) :: ws) ({ frames := 3, cells := 1, slots := 7, locals := 70 } : Room)) (fun a U => a = #[(.ref a9_0), (.int p9_1)] ∧ Z.Warmed39 U.vm ∧ U.heap = h0) (fun _ _ _ _ _ => True) (fun _ U o U' => ∃ v L, o = .returned v ∧ Q9 Z a9_0 p9_1 ar kk nn h0 n0 v U'.heap L ∧ FrameEnd U o U' L ({ frames := 3, cells := 1, slots := 7, locals := 70 } : Room).cells ({ frames := 3, cells := 1, slots := 7, locals := 70 } : Room).slots) := by
  refine MetFree.of_bodySF (plainFor_of_name pn_0) hisR ?_
  intro p e s m args below meth c s₁ Bd hml0 hP hK
  obtain ⟨rfl, hZ, hh⟩ := hP
  have hx := Bd.exec
  have hby := Bd.bytes
  have hml : c.maxLocals = 3 := hml0
  have hown : s.vm.findClass "com/example/ratatoskr/ratatoskr/io/FrameReader" = some m.cls := findClass_of_methodNamed Bd.named
  have hnm := (name_of_methodNamed Bd.named Bd.method).1
  have X0 : Stand p l e ({ frames := 3, cells := 1, slots := 7, locals := 70 } : Room) s m #[(.ref a9_0), (.int p9_1)] below meth c s₁ [] 0 0 := Stand.of_body Bd
  have e0 : s₁.heap = h0 := by rw [← hh, Bd.state]; rfl
  have N0 := Fr.nil n0
  have pre0 : ∀ t, Steps p.tables e below (s₁.setTop (mkF m 0 #[.val (.ref a9_0), .val (.int p9_1), .unset] [])) t → Steps p.tables e below (s₁.setTop (entryFrame m #[(.ref a9_0), (.int p9_1)] 3)) t := fun t k => castTop (ef_9 m a9_0 p9_1) k
  obtain ⟨cq1, q1, q1'⟩ := Ea.cell
  obtain ⟨_, _, ⟨T1, L1, k1, n1⟩, -, X1, ⟨Lc1, hQ1, l1, y1, z1⟩, st1⟩ := X0.privateBack hx (y := (⟨"com/example/ratatoskr/ratatoskr/io/FrameReader", "require", "(I)V"⟩ : MethodName)) hown (mvT hZ (hw _ (List.mem_of_getElem? (i := 25) rfl))) (mvT hZ (hw _ (List.mem_of_getElem? (i := 26) rfl))) (own_selpriv (mvT hZ (hw _ (List.mem_of_getElem? (i := 3) rfl))) (mvP hZ (hw _ (List.mem_of_getElem? (i := 27) rfl))) (mvT hZ (hw _ (List.mem_of_getElem? (i := 26) rfl))) (by decide)) (Cond.privateMethod_at (mvP hZ (hw _ (List.mem_of_getElem? (i := 27) rfl)) (args := #[]))) (mvT hZ (hw _ (List.mem_of_getElem? (i := 28) rfl))) (by decide) (backOf (W := 0) (rm4 l Z a0 hw [] a9_0 p9_1 ar kk nn h0 n0 Z0 Ea F1 F2 V1 hp0 hpn) hZ (hw _ (List.mem_of_getElem? (i := 28) rfl)) (hw _ (List.mem_of_getElem? (i := 4) rfl)) (by decide) (by decide)) (g := (mkF m 2 #[.val (.ref a9_0), .val (.int p9_1), .unset] [(.int p9_1), (.ref a9_0)])) rfl (by rw [hml]; rfl) (Steps.refl _) (a := a9_0) (by rw [e0]; exact q1) q1' (argsL := [(.int p9_1)]) (rest := []) (lenOf pd_4 rfl) rfl (by show 2 * 0 + _ ≤ _; exact Nat.le_of_eq rfl) (hb hby d9_2) (fun _ _ => ⟨rfl, e0, (by decide : 0 + 0 ≤ _), (by decide : 0 + 0 ≤ _)⟩)
  dsimp only [Pt.U, Pt.locs, Pt.cells, Pt.slots] at X1 l1 y1 z1 st1 hQ1
  subst l1 y1 z1
  obtain ⟨rfl, N1q, eh1⟩ := hQ1
  have N1 := Fr.app N0 N1q
  obtain ⟨T2, X2, e2, st2⟩ := getF X1 hx hZ hown (host := "") (Or.inl (hw _ (List.mem_of_getElem? (i := 11) rfl))) Via.refl eh1 F2 (g := (mkF m 6 #[.val (.ref a9_0), .val (.int p9_1), .unset] [(.ref a9_0)])) rfl rfl (hb hby d9_6)
  obtain ⟨T3, X3, e3, st3⟩ := getF X2 hx hZ hown (host := "") (Or.inl (hw _ (List.mem_of_getElem? (i := 18) rfl))) Via.refl e2 F1 (g := (mkF m 10 #[.val (.ref a9_0), .val (.int p9_1), .unset] [(.ref a9_0), (.ref ar)])) rfl rfl (hb hby d9_10)
  obtain ⟨T4, X4, e4, st4⟩ := getF X3 hx hZ hown (host := "") (Or.inl (hw _ (List.mem_of_getElem? (i := 18) rfl))) Via.refl e3 F1 (g := (mkF m 14 #[.val (.ref a9_0), .val (.int p9_1), .unset] [(.ref a9_0), (.int (0 : Int32)), (.ref ar)])) rfl rfl (hb hby d9_14)
  have k5 : ∀ t, Steps p.tables e below (T4.setTop (mkF m 19 #[.val (.ref a9_0), .val (.int p9_1), .unset] [(.int ((0 : Int32) + p9_1)), (.int (0 : Int32)), (.ref ar)])) t → Steps p.tables e below (s₁.setTop (entryFrame m #[(.ref a9_0), (.int p9_1)] 3)) t := by
    intro t k
    refine pre0 t ?_
    show Steps p.tables e below (s₁.setTop (mkF m 0 #[.val (.ref a9_0), .val (.int p9_1), .unset] [])) _
    refine XS.aloadN X0.here hx rfl (hb hby d9_0) rfl rfl ?_
    show Steps p.tables e below (s₁.setTop (mkF m 1 #[.val (.ref a9_0), .val (.int p9_1), .unset] [(.ref a9_0)])) _
    refine XS.iloadN X0.here hx rfl (hb hby d9_1) rfl ?_
    show Steps p.tables e below (s₁.setTop (mkF m 2 #[.val (.ref a9_0), .val (.int p9_1), .unset] [(.int p9_1), (.ref a9_0)])) _
    refine st1.trans ?_
    show Steps p.tables e below (T1.setTop (mkF m 5 #[.val (.ref a9_0), .val (.int p9_1), .unset] [])) _
    refine XS.aloadN X1.here hx rfl (hb hby d9_5) rfl rfl ?_
    show Steps p.tables e below (T1.setTop (mkF m 6 #[.val (.ref a9_0), .val (.int p9_1), .unset] [(.ref a9_0)])) _
    refine st2 _ ?_
    show Steps p.tables e below (T2.setTop (mkF m 9 #[.val (.ref a9_0), .val (.int p9_1), .unset] [(.ref ar)])) _
    refine XS.aloadN X2.here hx rfl (hb hby d9_9) rfl rfl ?_
    show Steps p.tables e below (T2.setTop (mkF m 10 #[.val (.ref a9_0), .val (.int p9_1), .unset] [(.ref a9_0), (.ref ar)])) _
    refine st3 _ ?_
    show Steps p.tables e below (T3.setTop (mkF m 13 #[.val (.ref a9_0), .val (.int p9_1), .unset] [(.int (0 : Int32)), (.ref ar)])) _
    refine XS.aloadN X3.here hx rfl (hb hby d9_13) rfl rfl ?_
    show Steps p.tables e below (T3.setTop (mkF m 14 #[.val (.ref a9_0), .val (.int p9_1), .unset] [(.ref a9_0), (.int (0 : Int32)), (.ref ar)])) _
    refine st4 _ ?_
    show Steps p.tables e below (T4.setTop (mkF m 17 #[.val (.ref a9_0), .val (.int p9_1), .unset] [(.int (0 : Int32)), (.int (0 : Int32)), (.ref ar)])) _
    refine XS.iloadN X4.here hx rfl (hb hby d9_17) rfl ?_
    show Steps p.tables e below (T4.setTop (mkF m 18 #[.val (.ref a9_0), .val (.int p9_1), .unset] [(.int p9_1), (.int (0 : Int32)), (.int (0 : Int32)), (.ref ar)])) _
    refine XS.iadd X4.here hx rfl (hb hby d9_18) rfl ?_
    exact k
  rw [show ((0 : Int32) + p9_1) = p9_1 from Int32.zero_add _] at k5
  obtain ⟨_, _, ⟨T6, L6, k6, n6⟩, -, X6, ⟨Lc6, hQ6, l6, y6, z6⟩, st6⟩ := Jvm.LawKit.callS X4 hx (y := (⟨"java/util/Arrays", "copyOfRange", "([BII)[B"⟩ : MethodName)) hown (mvT hZ (hw _ (List.mem_of_getElem? (i := 34) rfl))) (mvT hZ (hw _ (List.mem_of_getElem? (i := 35) rfl))) (mvT hZ (hw _ (List.mem_of_getElem? (i := 36) rfl))) (mvT hZ (hw _ (List.mem_of_getElem? (i := 37) rfl))) (by decide) (backOf (W := 0) (rm8 l Z a0 hw [] ar p9_1 kk nn h0 n0 Z0 V1 E1 hp0 hpn hn7) hZ (hw _ (List.mem_of_getElem? (i := 37) rfl)) (hw _ (List.mem_of_getElem? (i := 36) rfl)) (by decide) (by decide)) (g := (mkF m 19 #[.val (.ref a9_0), .val (.int p9_1), .unset] [(.int p9_1), (.int (0 : Int32)), (.ref ar)])) rfl (by rw [hml]; rfl) (argsL := [(.ref ar), (.int (0 : Int32)), (.int p9_1)]) (rest := []) (lenOf pd_3 rfl) rfl (by show 2 * 0 + _ ≤ _; exact Nat.le_of_eq rfl) (hb hby d9_19) (fun _ _ => ⟨rfl, e4, (by decide : 0 + 1 ≤ _), (by decide : 0 + 7 ≤ _)⟩)
  dsimp only [Pt.U, Pt.locs, Pt.cells, Pt.slots] at X6 l6 y6 z6 st6 hQ6
  subst l6 y6 z6
  obtain ⟨b8_6, rfl, N6q, Kc6⟩ := hQ6
  have Zs6 : n0 ≤ T6.heap.size := Nat.le_trans Z0 Kc6.1
  have K6 : Keep h0 T6.heap [a9_0] := (Keep.refl h0 [a9_0]).trans Kc6 all0
  have F7 : Exa Z T6.heap a9_0 "com/example/ratatoskr/ratatoskr/io/FrameReader" := Ea.keep Kc6
  have F8 : Fld Z T6.heap a9_0 "com/example/ratatoskr/ratatoskr/io/FrameReader" "index" "I" (.int (0 : Int32)) := F1.keep Kc6 nin0
  have F9 : Fld Z T6.heap a9_0 "com/example/ratatoskr/ratatoskr/io/FrameReader" "bytes" "[B" (.ref ar) := F2.keep Kc6 nin0
  have F10 : Arv Z T6.heap ar kk .byte nn [] (.int (0 : Int32)) := V1.keep Kc6 nin0
  have F11 : Exa Z T6.heap ar "[B" := E1.keep Kc6
  have N6 := Fr.app N1 N6q
  obtain ⟨T12, X12, e12, st12⟩ := getF X6 hx hZ hown (host := "") (Or.inl (hw _ (List.mem_of_getElem? (i := 18) rfl))) Via.refl rfl F8 (g := (mkF m 25 #[.val (.ref a9_0), .val (.int p9_1), .val (.ref b8_6)] [(.ref a9_0), (.ref a9_0)])) rfl rfl (hb hby d9_25)
  have k13 : ∀ t, Steps p.tables e below (T12.setTop (mkF m 30 #[.val (.ref a9_0), .val (.int p9_1), .val (.ref b8_6)] [(.int ((0 : Int32) + p9_1)), (.ref a9_0)])) t → Steps p.tables e below (s₁.setTop (entryFrame m #[(.ref a9_0), (.int p9_1)] 3)) t := by
    intro t k
    refine k5 t ?_
    show Steps p.tables e below (T4.setTop (mkF m 19 #[.val (.ref a9_0), .val (.int p9_1), .unset] [(.int p9_1), (.int (0 : Int32)), (.ref ar)])) _
    refine st6 _ ?_
    show Steps p.tables e below (T6.setTop (mkF m 22 #[.val (.ref a9_0), .val (.int p9_1), .unset] [(.ref b8_6)])) _
    refine XS.astoreN X6.here hx rfl (hb hby d9_22) rfl rfl (l' := #[.val (.ref a9_0), .val (.int p9_1), .val (.ref b8_6)]) rfl ?_
    show Steps p.tables e below (T6.setTop (mkF m 23 #[.val (.ref a9_0), .val (.int p9_1), .val (.ref b8_6)] [])) _
    refine XS.aloadN X6.here hx rfl (hb hby d9_23) rfl rfl ?_
    show Steps p.tables e below (T6.setTop (mkF m 24 #[.val (.ref a9_0), .val (.int p9_1), .val (.ref b8_6)] [(.ref a9_0)])) _
    refine XS.dup X6.here hx rfl (hb hby d9_24) rfl rfl ?_
    show Steps p.tables e below (T6.setTop (mkF m 25 #[.val (.ref a9_0), .val (.int p9_1), .val (.ref b8_6)] [(.ref a9_0), (.ref a9_0)])) _
    refine st12 _ ?_
    show Steps p.tables e below (T12.setTop (mkF m 28 #[.val (.ref a9_0), .val (.int p9_1), .val (.ref b8_6)] [(.int (0 : Int32)), (.ref a9_0)])) _
    refine XS.iloadN X12.here hx rfl (hb hby d9_28) rfl ?_
    show Steps p.tables e below (T12.setTop (mkF m 29 #[.val (.ref a9_0), .val (.int p9_1), .val (.ref b8_6)] [(.int p9_1), (.int (0 : Int32)), (.ref a9_0)])) _
    refine XS.iadd X12.here hx rfl (hb hby d9_29) rfl ?_
    exact k
  rw [show ((0 : Int32) + p9_1) = p9_1 from Int32.zero_add _] at k13
  obtain ⟨T14, h14, X14, e14, W14, st14⟩ := putF X12 hx hZ hown (host := "") (Or.inl (hw _ (List.mem_of_getElem? (i := 18) rfl))) Via.refl e12 F8 F7 (Or.inl (hw _ (List.mem_of_getElem? (i := 19) rfl))) (hw _ (List.mem_of_getElem? (i := 3) rfl)) (ty := .int) (by decide) rfl rfl (g := (mkF m 30 #[.val (.ref a9_0), .val (.int p9_1), .val (.ref b8_6)] [(.int p9_1), (.ref a9_0)])) rfl rfl (hb hby d9_30)
  have Fw14 : Fld Z h14 a9_0 "com/example/ratatoskr/ratatoskr/io/FrameReader" "index" "I" (.int p9_1) := F8.same W14
  have F15 : Exa Z h14 a9_0 "com/example/ratatoskr/ratatoskr/io/FrameReader" := F7.wr W14
  have F17 : Fld Z h14 a9_0 "com/example/ratatoskr/ratatoskr/io/FrameReader" "bytes" "[B" (.ref ar) := F9.other W14 (Or.inr (slot_ne (Or.inr (hw _ (List.mem_of_getElem? (i := 12) rfl))) (Or.inl (hw _ (List.mem_of_getElem? (i := 19) rfl))) (by decide) (t := (.array .byte)) (t' := .int) (by decide) (by decide)))
  have F18 : Arv Z h14 ar kk .byte nn [] (.int (0 : Int32)) := F10.other W14 hne
  have F19 : Exa Z h14 ar "[B" := F11.wr W14
  have N14 := Fr.snoc X14 N6 g_a9_0
  have K14 : Keep h0 h14 [a9_0] := K6.wr W14 (Or.inl (List.mem_of_getElem? (i := 0) rfl))
  have Zs14 : n0 ≤ h14.size := by rw [W14.size]; exact Zs6
  have k20 : ∀ t, Steps p.tables e below (T14.setTop (mkF m 34 #[.val (.ref a9_0), .val (.int p9_1), .val (.ref b8_6)] [(.ref b8_6)])) t → Steps p.tables e below (s₁.setTop (entryFrame m #[(.ref a9_0), (.int p9_1)] 3)) t := by
    intro t k
    refine k13 t ?_
    show Steps p.tables e below (T12.setTop (mkF m 30 #[.val (.ref a9_0), .val (.int p9_1), .val (.ref b8_6)] [(.int p9_1), (.ref a9_0)])) _
    refine st14 _ ?_
    show Steps p.tables e below (T14.setTop (mkF m 33 #[.val (.ref a9_0), .val (.int p9_1), .val (.ref b8_6)] [])) _
    refine XS.aloadN X14.here hx rfl (hb hby d9_33) rfl rfl ?_
    exact k
  obtain ⟨fs, hr, hrun, hended, hW, hsame⟩ := X14.leave (v := some (.ref b8_6)) (fun h => by rw [Bd.returns] at h; cases h)
  refine ⟨_, _, k20 _ ?_, hrun, hended, _, _, rfl, ?_, ⟨_, rfl⟩, hW, hsame.mono (by decide) (by decide)⟩
  · exact retOut X14 hx Bd.returns rfl (Or.inr (Or.inr (Or.inr (Or.inr ⟨rfl, rfl, rfl⟩)))) (hb hby d9_34) hr
  · show Q9 Z a9_0 p9_1 ar kk nn h0 n0 _ T14.heap _
    rw [e14]
    exact ⟨b8_6, rfl, N14, K14, F15, Fw14, F17⟩
theorem own_n7 (x : Int32) : ¬ ((x &&& (7 : Int32)) < (0 : Int32)) ∧ ¬ ((7 : Int32) < (x &&& (7 : Int32))) := by
  have h := c_mask x 7 3 (by decide) (by decide)
  simp only [own_lt, h, show (0 : Int32).toInt = 0 from rfl, show (7 : Int32).toInt = 7 from rfl]; omega
theorem own_n1 (n : Int32) (h0 : ¬ (n < (0 : Int32))) (h7 : ¬ ((7 : Int32) < n)) : (n + 1).toInt = n.toInt + 1 ∧ ¬ ((n + (1 : Int32)) = (0 : Int32)) := by
  have c1 := c_iadd n 1
  have r1 := rng32 (n + 1)
  have r2 := rng32 n
  rw [show (1 : Int32).toInt = 1 from rfl] at c1
  simp only [own_lt, own_eqi, show (0 : Int32).toInt = 0 from rfl, show (7 : Int32).toInt = 7 from rfl] at *; omega
theorem own_k (x n : Int32) (h0 : ¬ (n < (0 : Int32))) (h7 : ¬ ((7 : Int32) < n)) : ¬ (((x &&& (2147483647 : Int32)) % (n + (1 : Int32))) < (0 : Int32)) ∧ ¬ (n < ((x &&& (2147483647 : Int32)) % (n + (1 : Int32)))) := by
  have h := c_mask x 2147483647 31 (by decide) (by decide)
  have h1 := own_n1 n h0 h7
  have q := (c_iremV (x &&& (2147483647 : Int32)) (n + (1 : Int32))).1 (by rw [h]; omega) (by rw [h1.1]; rw [own_lt, show (0 : Int32).toInt = 0 from rfl] at h0; omega)
  rw [h1.1] at q
  simp only [own_lt, show (0 : Int32).toInt = 0 from rfl]; omega
theorem pn_2 : plainName "com/example/ratatoskr/ratatoskr/io/FrameReaderIsReadablePinLaw" = true := by first | (simp [plainName, overriddenIn]; done) | decide +kernel
theorem pd_5 : parseMethodDescriptor "([B)V" = some ⟨[(.array .byte)], none⟩ := by decide +kernel
theorem pd_6 : parseMethodDescriptor "()Z" = some ⟨[], some .boolean⟩ := by decide +kernel
theorem pd_7 : parseMethodDescriptor "(I)[B" = some ⟨[.int], some (.array .byte)⟩ := by decide +kernel
theorem ef_0 (m : MethodId) (p0_0 : Int32) (p0_1 : Int32) : entryFrame m #[(.int p0_0), (.int p0_1)] maxLocals = mkF m 0 #[.val (.int p0_0), .val (.int p0_1), .unset, .unset, .unset, .unset, .unset, .unset] [] := by first | (simp [entryFrame, mkF, argsToLocals, Value.category, maxLocals]; done) | rfl
def Q0 (Z : State) (p0_0 : Int32) (p0_1 : Int32) (h0 : Heap) (n0 : Nat) (v : Option Value) (h : Heap) (L : List Loc) : Prop := v = some (.int (1 : Int32)) ∧ Fr n0 L
set_option maxRecDepth 65536 in
set_option maxHeartbeats 40000000 in
theorem rm0 (l : Launch) (Z : State) (a0 : Array Value) (hw : ∀ d ∈ tables_1, d.before a0 Z = true) (ws : List Jvm.Cond) (p0_0 : Int32) (p0_1 : Int32) (h0 : Heap) (n0 : Nat) (Z0 : n0 ≤ h0.size) :
    MetFree l x (head1 (Jvm.Cond.code x code maxLocals ret :: ws) room_1) (fun a U => a = #[(.int p0_0), (.int p0_1)] ∧ Z.Warmed39 U.vm ∧ U.heap = h0) (fun _ _ _ _ _ => True) (fun _ U o U' => ∃ v L, o = .returned v ∧ Q0 Z p0_0 p0_1 h0 n0 v U'.heap L ∧ FrameEnd U o U' L 16 128) := by
  refine MetFree.of_bodySF (plainFor_of_name pn_2) hisR ?_
  intro p e s m args below meth c s₁ Bd hml0 hP hK
  obtain ⟨rfl, hZ, hh⟩ := hP
  have hx := Bd.exec
  have hby := Bd.bytes
  have hml : c.maxLocals = 8 := hml0
  have hown : s.vm.findClass "com/example/ratatoskr/ratatoskr/io/FrameReaderIsReadablePinLaw" = some m.cls := findClass_of_methodNamed Bd.named
  have hnm := (name_of_methodNamed Bd.named Bd.method).1
  have X0 : Stand p l e room_1 s m #[(.int p0_0), (.int p0_1)] below meth c s₁ [] 0 0 := Stand.of_body Bd
  have e0 : s₁.heap = h0 := by rw [← hh, Bd.state]; rfl
  have N0 := Fr.nil n0
  have pre0 : ∀ t, Steps p.tables e below (s₁.setTop (mkF m 0 #[.val (.int p0_0), .val (.int p0_1), .unset, .unset, .unset, .unset, .unset, .unset] [])) t → Steps p.tables e below (s₁.setTop (entryFrame m #[(.int p0_0), (.int p0_1)] maxLocals)) t := fun t k => castTop (ef_0 m p0_0 p0_1) k
  have k1 : ∀ t, Steps p.tables e below (s₁.setTop (mkF m 4 #[.val (.int p0_0), .val (.int p0_1), .unset, .unset, .unset, .unset, .unset, .unset] [(.int (p0_0 &&& (7 : Int32)))])) t → Steps p.tables e below (s₁.setTop (entryFrame m #[(.int p0_0), (.int p0_1)] maxLocals)) t := by
    intro t k
    refine pre0 t ?_
    show Steps p.tables e below (s₁.setTop (mkF m 0 #[.val (.int p0_0), .val (.int p0_1), .unset, .unset, .unset, .unset, .unset, .unset] [])) _
    refine XS.iloadN X0.here hx rfl (hb hby at_0) rfl ?_
    show Steps p.tables e below (s₁.setTop (mkF m 1 #[.val (.int p0_0), .val (.int p0_1), .unset, .unset, .unset, .unset, .unset, .unset] [(.int p0_0)])) _
    refine XS.bipush X0.here hx rfl (hb hby at_1) ?_
    show Steps p.tables e below (s₁.setTop (mkF m 3 #[.val (.int p0_0), .val (.int p0_1), .unset, .unset, .unset, .unset, .unset, .unset] [(.int (7 : Int32)), (.int p0_0)])) _
    refine XS.iand X0.here hx rfl (hb hby at_3) rfl ?_
    exact k
  obtain ⟨zN, hzN⟩ : ∃ z, z = (p0_0 &&& (7 : Int32)) := ⟨_, rfl⟩
  rw [← hzN] at k1
  have hN0 : ¬ (zN < (0 : Int32)) := by rw [hzN]; exact (own_n7 _).1
  have hN7 : ¬ ((7 : Int32) < zN) := by rw [hzN]; exact (own_n7 _).2
  have k2 : ∀ t, Steps p.tables e below (s₁.setTop (mkF m 13 #[.val (.int p0_0), .val (.int p0_1), .val (.int zN), .unset, .unset, .unset, .unset, .unset] [(.int ((p0_1 &&& (2147483647 : Int32)) % (zN + (1 : Int32))))])) t → Steps p.tables e below (s₁.setTop (entryFrame m #[(.int p0_0), (.int p0_1)] maxLocals)) t := by
    intro t k
    refine k1 t ?_
    show Steps p.tables e below (s₁.setTop (mkF m 4 #[.val (.int p0_0), .val (.int p0_1), .unset, .unset, .unset, .unset, .unset, .unset] [(.int zN)])) _
    refine XS.istoreN X0.here hx rfl (hb hby at_4) rfl (l' := #[.val (.int p0_0), .val (.int p0_1), .val (.int zN), .unset, .unset, .unset, .unset, .unset]) rfl ?_
    show Steps p.tables e below (s₁.setTop (mkF m 5 #[.val (.int p0_0), .val (.int p0_1), .val (.int zN), .unset, .unset, .unset, .unset, .unset] [])) _
    refine XS.iloadN X0.here hx rfl (hb hby at_5) rfl ?_
    show Steps p.tables e below (s₁.setTop (mkF m 6 #[.val (.int p0_0), .val (.int p0_1), .val (.int zN), .unset, .unset, .unset, .unset, .unset] [(.int p0_1)])) _
    refine X0.ldcInt hx hown (mvT hZ (hw _ (List.mem_of_getElem? (i := 0) rfl))) (g := (mkF m 6 #[.val (.int p0_0), .val (.int p0_1), .val (.int zN), .unset, .unset, .unset, .unset, .unset] [(.int p0_1)])) rfl (hb hby at_6) _ ?_
    show Steps p.tables e below (s₁.setTop (mkF m 8 #[.val (.int p0_0), .val (.int p0_1), .val (.int zN), .unset, .unset, .unset, .unset, .unset] [(.int (2147483647 : Int32)), (.int p0_1)])) _
    refine XS.iand X0.here hx rfl (hb hby at_8) rfl ?_
    show Steps p.tables e below (s₁.setTop (mkF m 9 #[.val (.int p0_0), .val (.int p0_1), .val (.int zN), .unset, .unset, .unset, .unset, .unset] [(.int (p0_1 &&& (2147483647 : Int32)))])) _
    refine XS.iloadN X0.here hx rfl (hb hby at_9) rfl ?_
    show Steps p.tables e below (s₁.setTop (mkF m 10 #[.val (.int p0_0), .val (.int p0_1), .val (.int zN), .unset, .unset, .unset, .unset, .unset] [(.int zN), (.int (p0_1 &&& (2147483647 : Int32)))])) _
    refine XS.iconst X0.here hx rfl (hb hby at_10) ?_
    show Steps p.tables e below (s₁.setTop (mkF m 11 #[.val (.int p0_0), .val (.int p0_1), .val (.int zN), .unset, .unset, .unset, .unset, .unset] [(.int (1 : Int32)), (.int zN), (.int (p0_1 &&& (2147483647 : Int32)))])) _
    refine XS.iadd X0.here hx rfl (hb hby at_11) rfl ?_
    show Steps p.tables e below (s₁.setTop (mkF m 12 #[.val (.int p0_0), .val (.int p0_1), .val (.int zN), .unset, .unset, .unset, .unset, .unset] [(.int (zN + (1 : Int32))), (.int (p0_1 &&& (2147483647 : Int32)))])) _
    refine iremM X0 hx rfl (hb hby at_12) rfl (own_n1 _ hN0 hN7).2 ?_
    exact k
  obtain ⟨zK, hzK⟩ : ∃ z, z = ((p0_1 &&& (2147483647 : Int32)) % (zN + (1 : Int32))) := ⟨_, rfl⟩
  rw [← hzK] at k2
  have hK0 : ¬ (zK < (0 : Int32)) := by rw [hzK]; exact (own_k _ _ hN0 hN7).1
  have hKn : ¬ (zN < zK) := by rw [hzK]; exact (own_k _ _ hN0 hN7).2
  obtain ⟨b3, g3⟩ : ∃ z, z = h0.size := ⟨_, rfl⟩
  obtain ⟨T3, h3, k3, X3, e3, E3, A3, Ex3, st3⟩ := newPE X0 hx hZ (hw _ (List.mem_of_getElem? (i := 1) rfl)) e0 (g := (mkF m 15 #[.val (.int p0_0), .val (.int p0_1), .val (.int zN), .val (.int zK), .unset, .unset, .unset, .unset] [(.int zN)])) rfl (hb hby at_15) rfl hN0 (cap := 7) (own_tn7 _ hN7) (by decide) (by decide) (by decide) (ad := "[B") (by decide)
  rw [← g3] at A3 st3 Ex3
  have gg3 : n0 ≤ b3 := Nat.le_trans Z0 (Nat.le_of_eq g3.symm)
  have Zs3 : n0 ≤ h3.size := Nat.le_trans Z0 E3.1
  have V3 : Arv Z h3 b3 k3 .byte zN [] (.int (0 : Int32)) := Arv.new A3 hN0
  obtain ⟨b4, g4⟩ : ∃ z, z = h3.size := ⟨_, rfl⟩
  obtain ⟨T4, h4, X4, e4, E4, A4, D4, -, st4⟩ := newO X3 hx hZ hown (hw _ (List.mem_of_getElem? (i := 2) rfl)) (hw _ (List.mem_of_getElem? (i := 3) rfl)) (hw _ (List.mem_of_getElem? (i := 4) rfl)) e3 (g := (mkF m 19 #[.val (.int p0_0), .val (.int p0_1), .val (.int zN), .val (.int zK), .val (.ref b3), .unset, .unset, .unset] [])) rfl (hb hby at_19) (by decide) (by decide)
  rw [← g4] at A4 D4 st4
  have ne5 : b3 ≠ b4 := Nat.ne_of_lt (Nat.lt_of_lt_of_le Ex3.lt (Nat.le_of_eq g4.symm))
  have gg4 : n0 ≤ b4 := Nat.le_trans Zs3 (Nat.le_of_eq g4.symm)
  have Zs4 : n0 ≤ h4.size := Nat.le_trans Zs3 E4.1
  have F6 : Exa Z h4 b3 "[B" := Ex3.ext E4
  have F7 : Arv Z h4 b3 k3 .byte zN [] (.int (0 : Int32)) := V3.ext E4
  have F8 : Fld Z h4 b4 "com/example/ratatoskr/ratatoskr/io/FrameReader" "bytes" "[B" .null := D4 (Or.inr (hw _ (List.mem_of_getElem? (i := 12) rfl))) (ty := (.array .byte)) (by decide)
  have F9 : Fld Z h4 b4 "com/example/ratatoskr/ratatoskr/io/FrameReader" "index" "I" (.int (0 : Int32)) := D4 (Or.inl (hw _ (List.mem_of_getElem? (i := 19) rfl))) (ty := .int) (by decide)
  obtain ⟨_, _, ⟨T10, L10, k10, n10⟩, -, X10, ⟨Lc10, hQ10, l10, y10, z10⟩, st10⟩ := X4.specialBack hx (y := (⟨"com/example/ratatoskr/ratatoskr/io/FrameReader", "<init>", "([B)V"⟩ : MethodName)) rfl hown (mvT hZ (hw _ (List.mem_of_getElem? (i := 5) rfl))) (mvT hZ (hw _ (List.mem_of_getElem? (i := 6) rfl))) (mvT hZ (hw _ (List.mem_of_getElem? (i := 7) rfl))) (by decide) (backOf (W := 1) (rm1 l Z a0 hw [] b4 b3 h4 n0 Zs4 A4 F8 F9 gg4) hZ (hw _ (List.mem_of_getElem? (i := 7) rfl)) (hw _ (List.mem_of_getElem? (i := 4) rfl)) (by decide) (by decide)) (g := (mkF m 25 #[.val (.int p0_0), .val (.int p0_1), .val (.int zN), .val (.int zK), .val (.ref b3), .unset, .unset, .unset] [(.ref b3), (.ref b4), (.ref b4)])) rfl (by rw [hml]; rfl) (Steps.refl _) (a := b4) (argsL := [(.ref b3)]) (rest := [(.ref b4)]) (lenOf pd_5 rfl) rfl (by show 2 * 0 + _ ≤ _; exact Nat.le_of_eq rfl) (hb hby at_25) (fun _ _ => ⟨rfl, e4, (by decide : 2 + 0 ≤ _), (by decide : 9 + 0 ≤ _)⟩)
  dsimp only [Pt.U, Pt.locs, Pt.cells, Pt.slots] at X10 l10 y10 z10 st10 hQ10
  subst l10 y10 z10
  obtain ⟨rfl, N10q, Kc10, G10_0, G10_1, G10_2⟩ := hQ10
  have Zs10 : n0 ≤ T10.heap.size := Nat.le_trans Zs4 Kc10.1
  have F11 : Exa Z T10.heap b3 "[B" := F6.keep Kc10
  have F12 : Arv Z T10.heap b3 k3 .byte zN [] (.int (0 : Int32)) := F7.keep Kc10 (ninS ne5 nin0)
  have N10 := Fr.app N0 N10q
  obtain ⟨cq13, kq13, q13a, q13b, q13c⟩ := isOf hZ rfl G10_0
  obtain ⟨_, _, ⟨T13, L13, k13, n13⟩, -, X13, ⟨Lc13, hQ13, l13, y13, z13⟩, st13⟩ := X10.virtualBack hx (y := (⟨"com/example/ratatoskr/ratatoskr/io/FrameReader", "isReadable", "()Z"⟩ : MethodName)) (z := (⟨"com/example/ratatoskr/ratatoskr/io/FrameReader", "isReadable", "()Z"⟩ : MethodName)) hown (mvT hZ (hw _ (List.mem_of_getElem? (i := 13) rfl))) (mvT hZ (hw _ (List.mem_of_getElem? (i := 14) rfl))) (notFace_of_selects (args := #[]) (mvT hZ (hw _ (List.mem_of_getElem? (i := 16) rfl)))) (mvT hZ (hw _ (List.mem_of_getElem? (i := 16) rfl))) (mvT hZ (hw _ (List.mem_of_getElem? (i := 15) rfl))) (by decide) (backOf (W := 0) (rm2 l Z a0 hw [] b4 (0 : Int32) b3 k3 zN T10.heap n0 Zs10 G10_2 G10_1 F12) hZ (hw _ (List.mem_of_getElem? (i := 17) rfl)) (hw _ (List.mem_of_getElem? (i := 4) rfl)) (by decide) (by decide)) q13a q13c (g := (mkF m 32 #[.val (.int p0_0), .val (.int p0_1), .val (.int zN), .val (.int zK), .val (.ref b3), .val (.ref b4), .unset, .unset] [(.ref b4)])) rfl (by rw [hml]; rfl) (Steps.refl _) (argsL := []) (rest := []) (lenOf pd_6 rfl) rfl (by show 2 * 0 + _ ≤ _; exact Nat.le_of_eq rfl) (hb hby at_32) (fun _ _ => ⟨rfl, rfl, (by decide : 2 + 0 ≤ _), (by decide : 9 + 0 ≤ _)⟩)
  dsimp only [Pt.U, Pt.locs, Pt.cells, Pt.slots] at X13 l13 y13 z13 st13 hQ13
  subst l13 y13 z13
  obtain ⟨rfl, N13q, eh13⟩ := hQ13
  have N13 := Fr.app N10 N13q
  obtain ⟨cq14, kq14, q14a, q14b, q14c⟩ := isOf hZ eh13 G10_0
  obtain ⟨_, _, ⟨T14, L14, k14, n14⟩, -, X14, ⟨Lc14, hQ14, l14, y14, z14⟩, st14⟩ := X13.virtualBack hx (y := (⟨"com/example/ratatoskr/ratatoskr/io/FrameReader", "readBytes", "(I)[B"⟩ : MethodName)) (z := (⟨"com/example/ratatoskr/ratatoskr/io/FrameReader", "readBytes", "(I)[B"⟩ : MethodName)) hown (mvT hZ (hw _ (List.mem_of_getElem? (i := 20) rfl))) (mvT hZ (hw _ (List.mem_of_getElem? (i := 21) rfl))) (notFace_of_selects (args := #[]) (mvT hZ (hw _ (List.mem_of_getElem? (i := 23) rfl)))) (mvT hZ (hw _ (List.mem_of_getElem? (i := 23) rfl))) (mvT hZ (hw _ (List.mem_of_getElem? (i := 22) rfl))) (by decide) (backOf (W := 0) (rm9 l Z a0 hw [] b4 zK b3 k3 zN T10.heap n0 Zs10 G10_0 G10_2 G10_1 F12 F11 hK0 hKn hN7 ne5 gg4) hZ (hw _ (List.mem_of_getElem? (i := 24) rfl)) (hw _ (List.mem_of_getElem? (i := 4) rfl)) (by decide) (by decide)) q14a q14c (g := (mkF m 40 #[.val (.int p0_0), .val (.int p0_1), .val (.int zN), .val (.int zK), .val (.ref b3), .val (.ref b4), .val (.int (own_isr (0 : Int32) zN)), .unset] [(.int zK), (.ref b4)])) rfl (by rw [hml]; rfl) (Steps.refl _) (argsL := [(.int zK)]) (rest := []) (lenOf pd_7 rfl) rfl (by show 2 * 0 + _ ≤ _; exact Nat.le_of_eq rfl) (hb hby at_40) (fun _ _ => ⟨rfl, eh13, (by decide : 2 + 1 ≤ _), (by decide : 9 + 7 ≤ _)⟩)
  dsimp only [Pt.U, Pt.locs, Pt.cells, Pt.slots] at X14 l14 y14 z14 st14 hQ14
  subst l14 y14 z14
  obtain ⟨b9_14, rfl, N14q, Kc14, G14_0, G14_1, G14_2⟩ := hQ14
  have Zs14 : n0 ≤ T14.heap.size := Nat.le_trans Zs10 Kc14.1
  have F15 : Exa Z T14.heap b3 "[B" := F11.keep Kc14
  have F16 : Arv Z T14.heap b3 k3 .byte zN [] (.int (0 : Int32)) := F12.keep Kc14 (ninS ne5 nin0)
  have N14 := Fr.app N13 N14q
  obtain ⟨cq17, kq17, q17a, q17b, q17c⟩ := isOf hZ rfl G14_0
  obtain ⟨_, _, ⟨T17, L17, k17, n17⟩, -, X17, ⟨Lc17, hQ17, l17, y17, z17⟩, st17⟩ := X14.virtualBack hx (y := (⟨"com/example/ratatoskr/ratatoskr/io/FrameReader", "isReadable", "()Z"⟩ : MethodName)) (z := (⟨"com/example/ratatoskr/ratatoskr/io/FrameReader", "isReadable", "()Z"⟩ : MethodName)) hown (mvT hZ (hw _ (List.mem_of_getElem? (i := 13) rfl))) (mvT hZ (hw _ (List.mem_of_getElem? (i := 14) rfl))) (notFace_of_selects (args := #[]) (mvT hZ (hw _ (List.mem_of_getElem? (i := 16) rfl)))) (mvT hZ (hw _ (List.mem_of_getElem? (i := 16) rfl))) (mvT hZ (hw _ (List.mem_of_getElem? (i := 15) rfl))) (by decide) (backOf (W := 0) (rm2 l Z a0 hw [] b4 zK b3 k3 zN T14.heap n0 Zs14 G14_1 G14_2 F16) hZ (hw _ (List.mem_of_getElem? (i := 17) rfl)) (hw _ (List.mem_of_getElem? (i := 4) rfl)) (by decide) (by decide)) q17a q17c (g := (mkF m 46 #[.val (.int p0_0), .val (.int p0_1), .val (.int zN), .val (.int zK), .val (.ref b3), .val (.ref b4), .val (.int (own_isr (0 : Int32) zN)), .unset] [(.ref b4)])) rfl (by rw [hml]; rfl) (Steps.refl _) (argsL := []) (rest := []) (lenOf pd_6 rfl) rfl (by show 2 * 0 + _ ≤ _; exact Nat.le_of_eq rfl) (hb hby at_46) (fun _ _ => ⟨rfl, rfl, (by decide : 3 + 0 ≤ _), (by decide : 16 + 0 ≤ _)⟩)
  dsimp only [Pt.U, Pt.locs, Pt.cells, Pt.slots] at X17 l17 y17 z17 st17 hQ17
  subst l17 y17 z17
  obtain ⟨rfl, N17q, eh17⟩ := hQ17
  have N17 := Fr.app N14 N17q
  have k18 : ∀ t, Steps p.tables e below (T17.setTop (mkF m 54 #[.val (.int p0_0), .val (.int p0_1), .val (.int zN), .val (.int zK), .val (.ref b3), .val (.ref b4), .val (.int (own_isr (0 : Int32) zN)), .val (.int (own_isr zK zN))] [(.int zN), (.int (own_isr (0 : Int32) zN))])) t → Steps p.tables e below (s₁.setTop (entryFrame m #[(.int p0_0), (.int p0_1)] maxLocals)) t := by
    intro t k
    refine k2 t ?_
    show Steps p.tables e below (s₁.setTop (mkF m 13 #[.val (.int p0_0), .val (.int p0_1), .val (.int zN), .unset, .unset, .unset, .unset, .unset] [(.int zK)])) _
    refine XS.istoreN X0.here hx rfl (hb hby at_13) rfl (l' := #[.val (.int p0_0), .val (.int p0_1), .val (.int zN), .val (.int zK), .unset, .unset, .unset, .unset]) rfl ?_
    show Steps p.tables e below (s₁.setTop (mkF m 14 #[.val (.int p0_0), .val (.int p0_1), .val (.int zN), .val (.int zK), .unset, .unset, .unset, .unset] [])) _
    refine XS.iloadN X0.here hx rfl (hb hby at_14) rfl ?_
    show Steps p.tables e below (s₁.setTop (mkF m 15 #[.val (.int p0_0), .val (.int p0_1), .val (.int zN), .val (.int zK), .unset, .unset, .unset, .unset] [(.int zN)])) _
    refine st3 _ ?_
    show Steps p.tables e below (T3.setTop (mkF m 17 #[.val (.int p0_0), .val (.int p0_1), .val (.int zN), .val (.int zK), .unset, .unset, .unset, .unset] [(.ref b3)])) _
    refine XS.astore X3.here hx rfl (hb hby at_17) rfl rfl (l' := #[.val (.int p0_0), .val (.int p0_1), .val (.int zN), .val (.int zK), .val (.ref b3), .unset, .unset, .unset]) rfl ?_
    show Steps p.tables e below (T3.setTop (mkF m 19 #[.val (.int p0_0), .val (.int p0_1), .val (.int zN), .val (.int zK), .val (.ref b3), .unset, .unset, .unset] [])) _
    refine st4 _ ?_
    show Steps p.tables e below (T4.setTop (mkF m 22 #[.val (.int p0_0), .val (.int p0_1), .val (.int zN), .val (.int zK), .val (.ref b3), .unset, .unset, .unset] [(.ref b4)])) _
    refine XS.dup X4.here hx rfl (hb hby at_22) rfl rfl ?_
    show Steps p.tables e below (T4.setTop (mkF m 23 #[.val (.int p0_0), .val (.int p0_1), .val (.int zN), .val (.int zK), .val (.ref b3), .unset, .unset, .unset] [(.ref b4), (.ref b4)])) _
    refine XS.aload X4.here hx rfl (hb hby at_23) rfl rfl ?_
    show Steps p.tables e below (T4.setTop (mkF m 25 #[.val (.int p0_0), .val (.int p0_1), .val (.int zN), .val (.int zK), .val (.ref b3), .unset, .unset, .unset] [(.ref b3), (.ref b4), (.ref b4)])) _
    refine st10.trans ?_
    show Steps p.tables e below (T10.setTop (mkF m 28 #[.val (.int p0_0), .val (.int p0_1), .val (.int zN), .val (.int zK), .val (.ref b3), .unset, .unset, .unset] [(.ref b4)])) _
    refine XS.astore X10.here hx rfl (hb hby at_28) rfl rfl (l' := #[.val (.int p0_0), .val (.int p0_1), .val (.int zN), .val (.int zK), .val (.ref b3), .val (.ref b4), .unset, .unset]) rfl ?_
    show Steps p.tables e below (T10.setTop (mkF m 30 #[.val (.int p0_0), .val (.int p0_1), .val (.int zN), .val (.int zK), .val (.ref b3), .val (.ref b4), .unset, .unset] [])) _
    refine XS.aload X10.here hx rfl (hb hby at_30) rfl rfl ?_
    show Steps p.tables e below (T10.setTop (mkF m 32 #[.val (.int p0_0), .val (.int p0_1), .val (.int zN), .val (.int zK), .val (.ref b3), .val (.ref b4), .unset, .unset] [(.ref b4)])) _
    refine st13.trans ?_
    show Steps p.tables e below (T13.setTop (mkF m 35 #[.val (.int p0_0), .val (.int p0_1), .val (.int zN), .val (.int zK), .val (.ref b3), .val (.ref b4), .unset, .unset] [(.int (own_isr (0 : Int32) zN))])) _
    refine XS.istore X13.here hx rfl (hb hby at_35) rfl (l' := #[.val (.int p0_0), .val (.int p0_1), .val (.int zN), .val (.int zK), .val (.ref b3), .val (.ref b4), .val (.int (own_isr (0 : Int32) zN)), .unset]) rfl ?_
    show Steps p.tables e below (T13.setTop (mkF m 37 #[.val (.int p0_0), .val (.int p0_1), .val (.int zN), .val (.int zK), .val (.ref b3), .val (.ref b4), .val (.int (own_isr (0 : Int32) zN)), .unset] [])) _
    refine XS.aload X13.here hx rfl (hb hby at_37) rfl rfl ?_
    show Steps p.tables e below (T13.setTop (mkF m 39 #[.val (.int p0_0), .val (.int p0_1), .val (.int zN), .val (.int zK), .val (.ref b3), .val (.ref b4), .val (.int (own_isr (0 : Int32) zN)), .unset] [(.ref b4)])) _
    refine XS.iloadN X13.here hx rfl (hb hby at_39) rfl ?_
    show Steps p.tables e below (T13.setTop (mkF m 40 #[.val (.int p0_0), .val (.int p0_1), .val (.int zN), .val (.int zK), .val (.ref b3), .val (.ref b4), .val (.int (own_isr (0 : Int32) zN)), .unset] [(.int zK), (.ref b4)])) _
    refine st14.trans ?_
    show Steps p.tables e below (T14.setTop (mkF m 43 #[.val (.int p0_0), .val (.int p0_1), .val (.int zN), .val (.int zK), .val (.ref b3), .val (.ref b4), .val (.int (own_isr (0 : Int32) zN)), .unset] [(.ref b9_14)])) _
    refine XS.pop X14.here hx rfl (hb hby at_43) rfl rfl ?_
    show Steps p.tables e below (T14.setTop (mkF m 44 #[.val (.int p0_0), .val (.int p0_1), .val (.int zN), .val (.int zK), .val (.ref b3), .val (.ref b4), .val (.int (own_isr (0 : Int32) zN)), .unset] [])) _
    refine XS.aload X14.here hx rfl (hb hby at_44) rfl rfl ?_
    show Steps p.tables e below (T14.setTop (mkF m 46 #[.val (.int p0_0), .val (.int p0_1), .val (.int zN), .val (.int zK), .val (.ref b3), .val (.ref b4), .val (.int (own_isr (0 : Int32) zN)), .unset] [(.ref b4)])) _
    refine st17.trans ?_
    show Steps p.tables e below (T17.setTop (mkF m 49 #[.val (.int p0_0), .val (.int p0_1), .val (.int zN), .val (.int zK), .val (.ref b3), .val (.ref b4), .val (.int (own_isr (0 : Int32) zN)), .unset] [(.int (own_isr zK zN))])) _
    refine XS.istore X17.here hx rfl (hb hby at_49) rfl (l' := #[.val (.int p0_0), .val (.int p0_1), .val (.int zN), .val (.int zK), .val (.ref b3), .val (.ref b4), .val (.int (own_isr (0 : Int32) zN)), .val (.int (own_isr zK zN))]) rfl ?_
    show Steps p.tables e below (T17.setTop (mkF m 51 #[.val (.int p0_0), .val (.int p0_1), .val (.int zN), .val (.int zK), .val (.ref b3), .val (.ref b4), .val (.int (own_isr (0 : Int32) zN)), .val (.int (own_isr zK zN))] [])) _
    refine XS.iload X17.here hx rfl (hb hby at_51) rfl ?_
    show Steps p.tables e below (T17.setTop (mkF m 53 #[.val (.int p0_0), .val (.int p0_1), .val (.int zN), .val (.int zK), .val (.ref b3), .val (.ref b4), .val (.int (own_isr (0 : Int32) zN)), .val (.int (own_isr zK zN))] [(.int (own_isr (0 : Int32) zN))])) _
    refine XS.iloadN X17.here hx rfl (hb hby at_53) rfl ?_
    exact k
  by_cases hc54_19 : (0 : Int32) < zN
  · skip
    have k20 : ∀ t, Steps p.tables e below (T17.setTop (mkF m 69 #[.val (.int p0_0), .val (.int p0_1), .val (.int zN), .val (.int zK), .val (.ref b3), .val (.ref b4), .val (.int (own_isr (0 : Int32) zN)), .val (.int (own_isr zK zN))] [(.int zN), (.int zK), (.int (own_isr zK zN))])) t → Steps p.tables e below (s₁.setTop (entryFrame m #[(.int p0_0), (.int p0_1)] maxLocals)) t := by
      intro t k
      refine k18 t ?_
      show Steps p.tables e below (T17.setTop (mkF m 54 #[.val (.int p0_0), .val (.int p0_1), .val (.int zN), .val (.int zK), .val (.ref b3), .val (.ref b4), .val (.int (own_isr (0 : Int32) zN)), .val (.int (own_isr zK zN))] [(.int zN), (.int (own_isr (0 : Int32) zN))])) _
      refine XS.ifNo X17.here hx rfl (hb hby at_54) rfl ((if0 _ _).trans (tlt hc54_19).2.2.2) ?_
      show Steps p.tables e below (T17.setTop (mkF m 57 #[.val (.int p0_0), .val (.int p0_1), .val (.int zN), .val (.int zK), .val (.ref b3), .val (.ref b4), .val (.int (own_isr (0 : Int32) zN)), .val (.int (own_isr zK zN))] [(.int (own_isr (0 : Int32) zN))])) _
      refine XS.iconst X17.here hx rfl (hb hby at_57) ?_
      show Steps p.tables e below (T17.setTop (mkF m 58 #[.val (.int p0_0), .val (.int p0_1), .val (.int zN), .val (.int zK), .val (.ref b3), .val (.ref b4), .val (.int (own_isr (0 : Int32) zN)), .val (.int (own_isr zK zN))] [(.int (1 : Int32)), (.int (own_isr (0 : Int32) zN))])) _
      refine XS.goto X17.here hx rfl (pc0 := 58) (pc' := 62) rfl (hb hby at_58) (by decide) (by decide) ?_
      show Steps p.tables e below (T17.setTop (mkF m 62 #[.val (.int p0_0), .val (.int p0_1), .val (.int zN), .val (.int zK), .val (.ref b3), .val (.ref b4), .val (.int (own_isr (0 : Int32) zN)), .val (.int (own_isr zK zN))] [(.int (1 : Int32)), (.int (own_isr (0 : Int32) zN))])) _
      refine XS.icmpNo X17.here hx rfl (hb hby at_62) rfl (teq (by unfold own_isr; rw [if_pos hc54_19])).2 ?_
      show Steps p.tables e below (T17.setTop (mkF m 65 #[.val (.int p0_0), .val (.int p0_1), .val (.int zN), .val (.int zK), .val (.ref b3), .val (.ref b4), .val (.int (own_isr (0 : Int32) zN)), .val (.int (own_isr zK zN))] [])) _
      refine XS.iload X17.here hx rfl (hb hby at_65) rfl ?_
      show Steps p.tables e below (T17.setTop (mkF m 67 #[.val (.int p0_0), .val (.int p0_1), .val (.int zN), .val (.int zK), .val (.ref b3), .val (.ref b4), .val (.int (own_isr (0 : Int32) zN)), .val (.int (own_isr zK zN))] [(.int (own_isr zK zN))])) _
      refine XS.iloadN X17.here hx rfl (hb hby at_67) rfl ?_
      show Steps p.tables e below (T17.setTop (mkF m 68 #[.val (.int p0_0), .val (.int p0_1), .val (.int zN), .val (.int zK), .val (.ref b3), .val (.ref b4), .val (.int (own_isr (0 : Int32) zN)), .val (.int (own_isr zK zN))] [(.int zK), (.int (own_isr zK zN))])) _
      refine XS.iloadN X17.here hx rfl (hb hby at_68) rfl ?_
      exact k
    by_cases hc69_21 : zK < zN
    · skip
      have k22 : ∀ t, Steps p.tables e below (T17.setTop (mkF m 85 #[.val (.int p0_0), .val (.int p0_1), .val (.int zN), .val (.int zK), .val (.ref b3), .val (.ref b4), .val (.int (own_isr (0 : Int32) zN)), .val (.int (own_isr zK zN))] [(.int (1 : Int32))])) t → Steps p.tables e below (s₁.setTop (entryFrame m #[(.int p0_0), (.int p0_1)] maxLocals)) t := by
        intro t k
        refine k20 t ?_
        show Steps p.tables e below (T17.setTop (mkF m 69 #[.val (.int p0_0), .val (.int p0_1), .val (.int zN), .val (.int zK), .val (.ref b3), .val (.ref b4), .val (.int (own_isr (0 : Int32) zN)), .val (.int (own_isr zK zN))] [(.int zN), (.int zK), (.int (own_isr zK zN))])) _
        refine XS.icmpNo X17.here hx rfl (hb hby at_69) rfl (tlt hc69_21).2.1 ?_
        show Steps p.tables e below (T17.setTop (mkF m 72 #[.val (.int p0_0), .val (.int p0_1), .val (.int zN), .val (.int zK), .val (.ref b3), .val (.ref b4), .val (.int (own_isr (0 : Int32) zN)), .val (.int (own_isr zK zN))] [(.int (own_isr zK zN))])) _
        refine XS.iconst X17.here hx rfl (hb hby at_72) ?_
        show Steps p.tables e below (T17.setTop (mkF m 73 #[.val (.int p0_0), .val (.int p0_1), .val (.int zN), .val (.int zK), .val (.ref b3), .val (.ref b4), .val (.int (own_isr (0 : Int32) zN)), .val (.int (own_isr zK zN))] [(.int (1 : Int32)), (.int (own_isr zK zN))])) _
        refine XS.goto X17.here hx rfl (pc0 := 73) (pc' := 77) rfl (hb hby at_73) (by decide) (by decide) ?_
        show Steps p.tables e below (T17.setTop (mkF m 77 #[.val (.int p0_0), .val (.int p0_1), .val (.int zN), .val (.int zK), .val (.ref b3), .val (.ref b4), .val (.int (own_isr (0 : Int32) zN)), .val (.int (own_isr zK zN))] [(.int (1 : Int32)), (.int (own_isr zK zN))])) _
        refine XS.icmpNo X17.here hx rfl (hb hby at_77) rfl (teq (by unfold own_isr; rw [if_pos hc69_21])).2 ?_
        show Steps p.tables e below (T17.setTop (mkF m 80 #[.val (.int p0_0), .val (.int p0_1), .val (.int zN), .val (.int zK), .val (.ref b3), .val (.ref b4), .val (.int (own_isr (0 : Int32) zN)), .val (.int (own_isr zK zN))] [])) _
        refine XS.iconst X17.here hx rfl (hb hby at_80) ?_
        show Steps p.tables e below (T17.setTop (mkF m 81 #[.val (.int p0_0), .val (.int p0_1), .val (.int zN), .val (.int zK), .val (.ref b3), .val (.ref b4), .val (.int (own_isr (0 : Int32) zN)), .val (.int (own_isr zK zN))] [(.int (1 : Int32))])) _
        refine XS.goto X17.here hx rfl (pc0 := 81) (pc' := 85) rfl (hb hby at_81) (by decide) (by decide) ?_
        exact k
      obtain ⟨fs, hr, hrun, hended, hW, hsame⟩ := X17.leave (v := some (.int (1 : Int32))) (fun h => by rw [Bd.returns] at h; cases h)
      refine ⟨_, _, k22 _ ?_, hrun, hended, _, _, rfl, ?_, ⟨_, rfl⟩, hW, hsame.mono (by decide) (by decide)⟩
      · exact retN X17 hx (t := .boolean) Bd.returns (by simp) (hb hby at_85) hr
      · show Q0 Z p0_0 p0_1 h0 n0 _ T17.heap _
        rw [eh17]
        exact ⟨rfl, N17⟩
    · skip
      have k23 : ∀ t, Steps p.tables e below (T17.setTop (mkF m 85 #[.val (.int p0_0), .val (.int p0_1), .val (.int zN), .val (.int zK), .val (.ref b3), .val (.ref b4), .val (.int (own_isr (0 : Int32) zN)), .val (.int (own_isr zK zN))] [(.int (1 : Int32))])) t → Steps p.tables e below (s₁.setTop (entryFrame m #[(.int p0_0), (.int p0_1)] maxLocals)) t := by
        intro t k
        refine k20 t ?_
        show Steps p.tables e below (T17.setTop (mkF m 69 #[.val (.int p0_0), .val (.int p0_1), .val (.int zN), .val (.int zK), .val (.ref b3), .val (.ref b4), .val (.int (own_isr (0 : Int32) zN)), .val (.int (own_isr zK zN))] [(.int zN), (.int zK), (.int (own_isr zK zN))])) _
        refine XS.icmpYes X17.here hx rfl (pc0 := 69) (pc' := 76) rfl (hb hby at_69) rfl (flt hc69_21).2.1 (by decide) (by decide) ?_
        show Steps p.tables e below (T17.setTop (mkF m 76 #[.val (.int p0_0), .val (.int p0_1), .val (.int zN), .val (.int zK), .val (.ref b3), .val (.ref b4), .val (.int (own_isr (0 : Int32) zN)), .val (.int (own_isr zK zN))] [(.int (own_isr zK zN))])) _
        refine XS.iconst X17.here hx rfl (hb hby at_76) ?_
        show Steps p.tables e below (T17.setTop (mkF m 77 #[.val (.int p0_0), .val (.int p0_1), .val (.int zN), .val (.int zK), .val (.ref b3), .val (.ref b4), .val (.int (own_isr (0 : Int32) zN)), .val (.int (own_isr zK zN))] [(.int (0 : Int32)), (.int (own_isr zK zN))])) _
        refine XS.icmpNo X17.here hx rfl (hb hby at_77) rfl (teq (by unfold own_isr; rw [if_neg hc69_21])).2 ?_
        show Steps p.tables e below (T17.setTop (mkF m 80 #[.val (.int p0_0), .val (.int p0_1), .val (.int zN), .val (.int zK), .val (.ref b3), .val (.ref b4), .val (.int (own_isr (0 : Int32) zN)), .val (.int (own_isr zK zN))] [])) _
        refine XS.iconst X17.here hx rfl (hb hby at_80) ?_
        show Steps p.tables e below (T17.setTop (mkF m 81 #[.val (.int p0_0), .val (.int p0_1), .val (.int zN), .val (.int zK), .val (.ref b3), .val (.ref b4), .val (.int (own_isr (0 : Int32) zN)), .val (.int (own_isr zK zN))] [(.int (1 : Int32))])) _
        refine XS.goto X17.here hx rfl (pc0 := 81) (pc' := 85) rfl (hb hby at_81) (by decide) (by decide) ?_
        exact k
      obtain ⟨fs, hr, hrun, hended, hW, hsame⟩ := X17.leave (v := some (.int (1 : Int32))) (fun h => by rw [Bd.returns] at h; cases h)
      refine ⟨_, _, k23 _ ?_, hrun, hended, _, _, rfl, ?_, ⟨_, rfl⟩, hW, hsame.mono (by decide) (by decide)⟩
      · exact retN X17 hx (t := .boolean) Bd.returns (by simp) (hb hby at_85) hr
      · show Q0 Z p0_0 p0_1 h0 n0 _ T17.heap _
        rw [eh17]
        exact ⟨rfl, N17⟩
  · skip
    have k24 : ∀ t, Steps p.tables e below (T17.setTop (mkF m 69 #[.val (.int p0_0), .val (.int p0_1), .val (.int zN), .val (.int zK), .val (.ref b3), .val (.ref b4), .val (.int (own_isr (0 : Int32) zN)), .val (.int (own_isr zK zN))] [(.int zN), (.int zK), (.int (own_isr zK zN))])) t → Steps p.tables e below (s₁.setTop (entryFrame m #[(.int p0_0), (.int p0_1)] maxLocals)) t := by
      intro t k
      refine k18 t ?_
      show Steps p.tables e below (T17.setTop (mkF m 54 #[.val (.int p0_0), .val (.int p0_1), .val (.int zN), .val (.int zK), .val (.ref b3), .val (.ref b4), .val (.int (own_isr (0 : Int32) zN)), .val (.int (own_isr zK zN))] [(.int zN), (.int (own_isr (0 : Int32) zN))])) _
      refine XS.ifYes X17.here hx rfl (pc0 := 54) (pc' := 61) rfl (hb hby at_54) rfl ((if0 _ _).trans (flt hc54_19).2.2.2) (by decide) (by decide) ?_
      show Steps p.tables e below (T17.setTop (mkF m 61 #[.val (.int p0_0), .val (.int p0_1), .val (.int zN), .val (.int zK), .val (.ref b3), .val (.ref b4), .val (.int (own_isr (0 : Int32) zN)), .val (.int (own_isr zK zN))] [(.int (own_isr (0 : Int32) zN))])) _
      refine XS.iconst X17.here hx rfl (hb hby at_61) ?_
      show Steps p.tables e below (T17.setTop (mkF m 62 #[.val (.int p0_0), .val (.int p0_1), .val (.int zN), .val (.int zK), .val (.ref b3), .val (.ref b4), .val (.int (own_isr (0 : Int32) zN)), .val (.int (own_isr zK zN))] [(.int (0 : Int32)), (.int (own_isr (0 : Int32) zN))])) _
      refine XS.icmpNo X17.here hx rfl (hb hby at_62) rfl (teq (by unfold own_isr; rw [if_neg hc54_19])).2 ?_
      show Steps p.tables e below (T17.setTop (mkF m 65 #[.val (.int p0_0), .val (.int p0_1), .val (.int zN), .val (.int zK), .val (.ref b3), .val (.ref b4), .val (.int (own_isr (0 : Int32) zN)), .val (.int (own_isr zK zN))] [])) _
      refine XS.iload X17.here hx rfl (hb hby at_65) rfl ?_
      show Steps p.tables e below (T17.setTop (mkF m 67 #[.val (.int p0_0), .val (.int p0_1), .val (.int zN), .val (.int zK), .val (.ref b3), .val (.ref b4), .val (.int (own_isr (0 : Int32) zN)), .val (.int (own_isr zK zN))] [(.int (own_isr zK zN))])) _
      refine XS.iloadN X17.here hx rfl (hb hby at_67) rfl ?_
      show Steps p.tables e below (T17.setTop (mkF m 68 #[.val (.int p0_0), .val (.int p0_1), .val (.int zN), .val (.int zK), .val (.ref b3), .val (.ref b4), .val (.int (own_isr (0 : Int32) zN)), .val (.int (own_isr zK zN))] [(.int zK), (.int (own_isr zK zN))])) _
      refine XS.iloadN X17.here hx rfl (hb hby at_68) rfl ?_
      exact k
    by_cases hc69_25 : zK < zN
    · skip
      have k26 : ∀ t, Steps p.tables e below (T17.setTop (mkF m 85 #[.val (.int p0_0), .val (.int p0_1), .val (.int zN), .val (.int zK), .val (.ref b3), .val (.ref b4), .val (.int (own_isr (0 : Int32) zN)), .val (.int (own_isr zK zN))] [(.int (1 : Int32))])) t → Steps p.tables e below (s₁.setTop (entryFrame m #[(.int p0_0), (.int p0_1)] maxLocals)) t := by
        intro t k
        refine k24 t ?_
        show Steps p.tables e below (T17.setTop (mkF m 69 #[.val (.int p0_0), .val (.int p0_1), .val (.int zN), .val (.int zK), .val (.ref b3), .val (.ref b4), .val (.int (own_isr (0 : Int32) zN)), .val (.int (own_isr zK zN))] [(.int zN), (.int zK), (.int (own_isr zK zN))])) _
        refine XS.icmpNo X17.here hx rfl (hb hby at_69) rfl (tlt hc69_25).2.1 ?_
        show Steps p.tables e below (T17.setTop (mkF m 72 #[.val (.int p0_0), .val (.int p0_1), .val (.int zN), .val (.int zK), .val (.ref b3), .val (.ref b4), .val (.int (own_isr (0 : Int32) zN)), .val (.int (own_isr zK zN))] [(.int (own_isr zK zN))])) _
        refine XS.iconst X17.here hx rfl (hb hby at_72) ?_
        show Steps p.tables e below (T17.setTop (mkF m 73 #[.val (.int p0_0), .val (.int p0_1), .val (.int zN), .val (.int zK), .val (.ref b3), .val (.ref b4), .val (.int (own_isr (0 : Int32) zN)), .val (.int (own_isr zK zN))] [(.int (1 : Int32)), (.int (own_isr zK zN))])) _
        refine XS.goto X17.here hx rfl (pc0 := 73) (pc' := 77) rfl (hb hby at_73) (by decide) (by decide) ?_
        show Steps p.tables e below (T17.setTop (mkF m 77 #[.val (.int p0_0), .val (.int p0_1), .val (.int zN), .val (.int zK), .val (.ref b3), .val (.ref b4), .val (.int (own_isr (0 : Int32) zN)), .val (.int (own_isr zK zN))] [(.int (1 : Int32)), (.int (own_isr zK zN))])) _
        refine XS.icmpNo X17.here hx rfl (hb hby at_77) rfl (teq (by unfold own_isr; rw [if_pos hc69_25])).2 ?_
        show Steps p.tables e below (T17.setTop (mkF m 80 #[.val (.int p0_0), .val (.int p0_1), .val (.int zN), .val (.int zK), .val (.ref b3), .val (.ref b4), .val (.int (own_isr (0 : Int32) zN)), .val (.int (own_isr zK zN))] [])) _
        refine XS.iconst X17.here hx rfl (hb hby at_80) ?_
        show Steps p.tables e below (T17.setTop (mkF m 81 #[.val (.int p0_0), .val (.int p0_1), .val (.int zN), .val (.int zK), .val (.ref b3), .val (.ref b4), .val (.int (own_isr (0 : Int32) zN)), .val (.int (own_isr zK zN))] [(.int (1 : Int32))])) _
        refine XS.goto X17.here hx rfl (pc0 := 81) (pc' := 85) rfl (hb hby at_81) (by decide) (by decide) ?_
        exact k
      obtain ⟨fs, hr, hrun, hended, hW, hsame⟩ := X17.leave (v := some (.int (1 : Int32))) (fun h => by rw [Bd.returns] at h; cases h)
      refine ⟨_, _, k26 _ ?_, hrun, hended, _, _, rfl, ?_, ⟨_, rfl⟩, hW, hsame.mono (by decide) (by decide)⟩
      · exact retN X17 hx (t := .boolean) Bd.returns (by simp) (hb hby at_85) hr
      · show Q0 Z p0_0 p0_1 h0 n0 _ T17.heap _
        rw [eh17]
        exact ⟨rfl, N17⟩
    · skip
      have k27 : ∀ t, Steps p.tables e below (T17.setTop (mkF m 85 #[.val (.int p0_0), .val (.int p0_1), .val (.int zN), .val (.int zK), .val (.ref b3), .val (.ref b4), .val (.int (own_isr (0 : Int32) zN)), .val (.int (own_isr zK zN))] [(.int (1 : Int32))])) t → Steps p.tables e below (s₁.setTop (entryFrame m #[(.int p0_0), (.int p0_1)] maxLocals)) t := by
        intro t k
        refine k24 t ?_
        show Steps p.tables e below (T17.setTop (mkF m 69 #[.val (.int p0_0), .val (.int p0_1), .val (.int zN), .val (.int zK), .val (.ref b3), .val (.ref b4), .val (.int (own_isr (0 : Int32) zN)), .val (.int (own_isr zK zN))] [(.int zN), (.int zK), (.int (own_isr zK zN))])) _
        refine XS.icmpYes X17.here hx rfl (pc0 := 69) (pc' := 76) rfl (hb hby at_69) rfl (flt hc69_25).2.1 (by decide) (by decide) ?_
        show Steps p.tables e below (T17.setTop (mkF m 76 #[.val (.int p0_0), .val (.int p0_1), .val (.int zN), .val (.int zK), .val (.ref b3), .val (.ref b4), .val (.int (own_isr (0 : Int32) zN)), .val (.int (own_isr zK zN))] [(.int (own_isr zK zN))])) _
        refine XS.iconst X17.here hx rfl (hb hby at_76) ?_
        show Steps p.tables e below (T17.setTop (mkF m 77 #[.val (.int p0_0), .val (.int p0_1), .val (.int zN), .val (.int zK), .val (.ref b3), .val (.ref b4), .val (.int (own_isr (0 : Int32) zN)), .val (.int (own_isr zK zN))] [(.int (0 : Int32)), (.int (own_isr zK zN))])) _
        refine XS.icmpNo X17.here hx rfl (hb hby at_77) rfl (teq (by unfold own_isr; rw [if_neg hc69_25])).2 ?_
        show Steps p.tables e below (T17.setTop (mkF m 80 #[.val (.int p0_0), .val (.int p0_1), .val (.int zN), .val (.int zK), .val (.ref b3), .val (.ref b4), .val (.int (own_isr (0 : Int32) zN)), .val (.int (own_isr zK zN))] [])) _
        refine XS.iconst X17.here hx rfl (hb hby at_80) ?_
        show Steps p.tables e below (T17.setTop (mkF m 81 #[.val (.int p0_0), .val (.int p0_1), .val (.int zN), .val (.int zK), .val (.ref b3), .val (.ref b4), .val (.int (own_isr (0 : Int32) zN)), .val (.int (own_isr zK zN))] [(.int (1 : Int32))])) _
        refine XS.goto X17.here hx rfl (pc0 := 81) (pc' := 85) rfl (hb hby at_81) (by decide) (by decide) ?_
        exact k
      obtain ⟨fs, hr, hrun, hended, hW, hsame⟩ := X17.leave (v := some (.int (1 : Int32))) (fun h => by rw [Bd.returns] at h; cases h)
      refine ⟨_, _, k27 _ ?_, hrun, hended, _, _, rfl, ?_, ⟨_, rfl⟩, hW, hsame.mono (by decide) (by decide)⟩
      · exact retN X17 hx (t := .boolean) Bd.returns (by simp) (hb hby at_85) hr
      · show Q0 Z p0_0 p0_1 h0 n0 _ T17.heap _
        rw [eh17]
        exact ⟨rfl, N17⟩
set_option maxRecDepth 65536 in
set_option maxHeartbeats 40000000 in
theorem comes_1 {Post : Tables → Env → Array Value → State → Outcome → State → Prop} (hpost : ∀ tb e args s v u, (limb_1_1.after args s (.returned v) u = true ∧ limb_1_2.after args s (.returned v) u = true ∧ True) → FrameEnd s (.returned v) u (Jvm.fieldLocs frame_1_writes args s ++ Jvm.arrayLocs frame_1_arrays args s ++ Jvm.staticLocs frame_1_statics s) 16 128 → Post tb e args s (.returned v) u) :
    ArmFor flags0 classFile x code maxLocals ret World_1 tables_1 room_1 Calls_1 rest_1 Pre_1 Post := by
  intro l hfl _ _ p e ha hc hk s m args below hf hA hF happ hP
  obtain ⟨hcalls, hrest, hpre⟩ := hP
  obtain ⟨-, -, -, hnamed, -, -, -, hat⟩ := (Spec.applies_iff hf).mp happ
  obtain ⟨hg, hn⟩ := and_e (Cond.before_iff.mp (show (Jvm.Cond.and given_1 narrow_1).before args s = true from hpre))
  obtain ⟨gv1, gv2⟩ := and_e hg
  obtain ⟨gv3, gv4⟩ := and_e gv2
  obtain ⟨w0, w1, rfl⟩ : ∃ w0 w1 : Value, args = #[w0, w1] := by
    have hs : args.size = 2 := by simpa [Cond.value, given_1] using gv1
    obtain ⟨L⟩ := args
    match L, hs with
    | [w0, w1], _ => exact ⟨w0, w1, rfl⟩
  have hw := fun d (hd : d ∈ tables_1) => atoms_spec (ws := Jvm.Cond.code x code maxLocals ret :: tables_1) hat d (List.mem_cons_of_mem _ hd)
  have hfit : Fit s := fun {y c} hc i hi => by
    obtain ⟨ha, rfl⟩ := Array.getElem?_eq_some_iff.mp hc
    have q := List.all_eq_true.mp ((Array.all_eq_true_iff_forall_mem.mp hF) _ (Array.getElem_mem ha)) i (List.mem_range.mpr hi)
    simpa [Array.getElem?_eq_getElem hi] using q
  obtain ⟨i0, ei0⟩ := is_v gv3
  obtain rfl : w0 = (.int i0) := Option.some.inj ei0
  obtain ⟨i1, ei1⟩ := is_v gv4
  obtain rfl : w1 = (.int i1) := Option.some.inj ei1
  obtain ⟨n, o, h1, h2, h3, _, L, rfl, ⟨rfl, N⟩, hq⟩ := rm0 l s _ hw tables_1 i0 i1 s.heap s.heap.size (Nat.le_refl _)  p e ha hc hk s m _ below hf ((Spec.applies_iff_loose hf).mp happ).1 ⟨rfl, State.Warmed39.refl s, rfl⟩ trivial
  refine ⟨n, _, h1, h2, h3, hpost _ _ _ _ _ _ ⟨Cond.after_iff.mpr rfl, Cond.after_iff.mpr (eq_i res_at (Term.int_eval (1)) rfl), trivial⟩ ⟨hq.1, hq.2.1, (hq.2.2.sift fun y hy => Or.inr (N y hy)).mono (by decide) (by decide)⟩⟩
theorem main_1_1 : Claimed_1_1 := comes_1 fun _ _ _ _ _ _ h hF => ⟨h.1, hF⟩
theorem main_1_2 : Claimed_1_2 := comes_1 fun _ _ _ _ _ _ h hF => ⟨h.2.1, hF⟩
end Jvm.Pilot.@@N@@
namespace Jvm.Pilot.@@N@@
open Jvm Jvm.ClassFile Sem Op Lib Jvm.Free Jvm.Stand Jvm.Pilot.@@N@@.Jvm.D
/-! MADE BY PROGRAM (witnessworld.py) out of the Statement's table words and the real class files: 12 classes; the members and pool entries that the words name. The judged class is class 1, her method 1. -/
namespace start1
open Jvm.ClassFile
def u (s : String) : CpInfo := .utf8 (stringToUtf16 s)
/-- a pool by its gaps: so many unusable entries, then the entry; so many at the end -/
def gap : Nat → List CpInfo → List CpInfo
  | 0, r => r
  | n + 1, r => .unusable :: gap n r
def poolList (es : List (Nat × CpInfo)) (last : Nat) : List CpInfo := es.foldr (fun e r => gap e.1 (e.2 :: r)) (gap last [])
def pool (es : List (Nat × CpInfo)) (last : Nat) : Array CpInfo := ⟨poolList es last⟩
def fileOf (pool : Array CpInfo) (this : Nat) (attrs : Array Attribute := #[]) (ms : Array MethodInfo := #[]) (fl : Nat := 33) (sup : Nat := 0) (ifs : Array Nat := #[]) (fds : Array FieldInfo := #[]) : ClassFile where
  minorVersion := 0
  majorVersion := 65
  constantPool := pool
  accessFlags := fl
  thisClass := this
  superClass := sup
  interfaces := ifs
  fields := fds
  methods := ms
  attributes := attrs
def plain (name : String) (sup : Option ClassId) : Class where
  name := name
  kind := .ordinary
  loader := none
  accessFlags := 33
  super := sup
  interfaces := #[]
  cf := none
  fields := #[]
  methods := #[]
  instanceTypes := #[]
  staticTypes := #[]
  resolved := #[]
  callSites := []
  init := .initialized
  statics := none
  mirror := none

def pool0 : Array CpInfo := pool [(5, u "<init>"), (0, u "()V"), (1, .class_ 10), (1, u "java/lang/Object"), (85, u "clone"), (0, u "()Ljava/lang/Object;")] 26

def k0c0 : Code := { maxStack := 0, maxLocals := 1, code := object_method_1_code, exceptionTable := #[], attributes := #[] }
def k0m0 : Method := { name := "<init>", desc := "()V", sig := { parameters := [], returnType := none }, accessFlags := 1, code := some k0c0 }
def k0m1 : Method := { name := "clone", desc := "()Ljava/lang/Object;", sig := { parameters := [], returnType := some (.object "java/lang/Object") }, accessFlags := 260, code := none }
/-- java/lang/Object -/
def k0 : Class := { plain "java/lang/Object" none with
  accessFlags := 33
  interfaces := #[]
  cf := some (fileOf pool0 8 #[] #[{ accessFlags := 1, nameIndex := 5, descriptorIndex := 6, attributes := #[] }, { accessFlags := 260, nameIndex := 96, descriptorIndex := 97, attributes := #[] }] 33 0 #[] #[])
  fields := #[]
  methods := #[k0m0, k0m1]
  instanceTypes := #[]
  staticTypes := #[]
  resolved := Array.replicate 124 none
  statics := none }

def pool1 : Array CpInfo := pool [(2, .class_ 4), (1, u "java/lang/Object"), (0, u "<init>"), (0, u "()V"), (0, .integer 2147483647), (0, .class_ 9), (0, u "com/example/ratatoskr/ratatoskr/io/FrameReader"), (0, .methodref 8 11), (0, .nameAndType 5 12), (0, u "([B)V"), (0, .methodref 8 14), (0, .nameAndType 15 16), (0, u "isReadable"), (0, u "()Z"), (0, .methodref 8 18), (0, .nameAndType 19 20), (0, u "readBytes"), (0, u "(I)[B"), (0, .class_ 22), (0, u "com/example/ratatoskr/ratatoskr/io/FrameReaderIsReadablePinLaw"), (2, u "law"), (0, u "(II)Z")] 5

def k1m0 : Method := { name := "<init>", desc := "()V", sig := { parameters := [], returnType := none }, accessFlags := 1, code := none }
def k1c1 : Code := { maxStack := 3, maxLocals := 8, code := code, exceptionTable := #[], attributes := #[] }
def k1m1 : Method := { name := "law", desc := "(II)Z", sig := { parameters := [.int, .int], returnType := some .boolean }, accessFlags := 9, code := some k1c1 }
/-- com/example/ratatoskr/ratatoskr/io/FrameReaderIsReadablePinLaw -/
def k1 : Class := { plain "com/example/ratatoskr/ratatoskr/io/FrameReaderIsReadablePinLaw" (some 0) with
  accessFlags := 49
  interfaces := #[]
  cf := some (fileOf pool1 21 #[] #[{ accessFlags := 1, nameIndex := 5, descriptorIndex := 6, attributes := #[] }, { accessFlags := 9, nameIndex := 25, descriptorIndex := 26, attributes := #[] }] 49 2 #[] #[])
  fields := #[]
  methods := #[k1m0, k1m1]
  instanceTypes := #[]
  staticTypes := #[]
  resolved := Array.replicate 32 none
  statics := none }

def pool2 : Array CpInfo := pool [(1, .methodref 2 3), (0, .class_ 4), (0, .nameAndType 5 6), (0, u "java/lang/Object"), (0, u "<init>"), (0, u "()V"), (0, .fieldref 8 9), (0, .class_ 10), (0, .nameAndType 11 12), (0, u "com/example/ratatoskr/ratatoskr/io/FrameReader"), (0, u "bytes"), (0, u "[B"), (0, .fieldref 8 14), (0, .nameAndType 15 16), (0, u "index"), (0, u "I"), (0, .methodref 8 18), (0, .nameAndType 19 20), (0, u "require"), (0, u "(I)V"), (12, .methodref 34 35), (0, .class_ 36), (0, .nameAndType 37 38), (0, u "java/util/Arrays"), (0, u "copyOfRange"), (0, u "([BII)[B"), (11, .methodref 8 51), (0, .nameAndType 52 53), (0, u "readableBytes"), (0, u "()I"), (9, u "([B)V"), (2, u "isReadable"), (0, u "()Z"), (7, u "readBytes"), (0, u "(I)[B")] 19

def k2c0 : Code := { maxStack := 2, maxLocals := 2, code := prog_14_method_1_code, exceptionTable := #[], attributes := #[] }
def k2m0 : Method := { name := "<init>", desc := "([B)V", sig := { parameters := [(.array .byte)], returnType := none }, accessFlags := 0, code := some k2c0 }
def k2c1 : Code := { maxStack := 2, maxLocals := 1, code := prog_14_method_2_code, exceptionTable := #[], attributes := #[] }
def k2m1 : Method := { name := "readableBytes", desc := "()I", sig := { parameters := [], returnType := some .int }, accessFlags := 0, code := some k2c1 }
def k2c2 : Code := { maxStack := 2, maxLocals := 1, code := prog_14_method_3_code, exceptionTable := #[], attributes := #[] }
def k2m2 : Method := { name := "isReadable", desc := "()Z", sig := { parameters := [], returnType := some .boolean }, accessFlags := 0, code := some k2c2 }
def k2c3 : Code := { maxStack := 4, maxLocals := 3, code := prog_14_method_9_code, exceptionTable := #[], attributes := #[] }
def k2m3 : Method := { name := "readBytes", desc := "(I)[B", sig := { parameters := [.int], returnType := some (.array .byte) }, accessFlags := 0, code := some k2c3 }
def k2c4 : Code := { maxStack := 6, maxLocals := 2, code := prog_14_method_12_code, exceptionTable := #[], attributes := #[] }
def k2m4 : Method := { name := "require", desc := "(I)V", sig := { parameters := [.int], returnType := none }, accessFlags := 2, code := some k2c4 }
/-- com/example/ratatoskr/ratatoskr/io/FrameReader -/
def k2 : Class := { plain "com/example/ratatoskr/ratatoskr/io/FrameReader" (some 0) with
  accessFlags := 48
  interfaces := #[]
  cf := some (fileOf pool2 8 #[] #[{ accessFlags := 0, nameIndex := 5, descriptorIndex := 63, attributes := #[] }, { accessFlags := 0, nameIndex := 52, descriptorIndex := 53, attributes := #[] }, { accessFlags := 0, nameIndex := 66, descriptorIndex := 67, attributes := #[] }, { accessFlags := 0, nameIndex := 75, descriptorIndex := 76, attributes := #[] }, { accessFlags := 2, nameIndex := 19, descriptorIndex := 20, attributes := #[] }] 48 2 #[] #[{ accessFlags := 18, nameIndex := 11, descriptorIndex := 12, attributes := #[] }, { accessFlags := 2, nameIndex := 15, descriptorIndex := 16, attributes := #[] }])
  fields := #[{ name := "bytes", type := (.array .byte), accessFlags := 18, slot := 0, constantValue := 0 }, { name := "index", type := .int, accessFlags := 2, slot := 1, constantValue := 0 }]
  methods := #[k2m0, k2m1, k2m2, k2m3, k2m4]
  instanceTypes := #[(.array .byte), .int]
  staticTypes := #[]
  resolved := Array.replicate 96 none
  statics := none }

def pool3 : Array CpInfo := pool [(2, .class_ 4), (1, u "java/lang/Object"), (0, u "<init>"), (0, u "()V"), (7, .class_ 16), (1, u "java/util/Arrays"), (57, .class_ 76), (1, u "java/util/Arrays$NaturalOrder"), (32, u "()Ljava/lang/Object;"), (3, .class_ 115), (1, u "java/util/Arrays$LegacyMergeSort"), (1, u "Z"), (10, .nameAndType 129 109), (0, u "clone"), (9, u "copyOfRange"), (10, .methodref 151 152), (0, .class_ 153), (0, .nameAndType 154 155), (0, u "java/lang/System"), (0, u "arraycopy"), (0, u "(Ljava/lang/Object;ILjava/lang/Object;II)V"), (148, .methodref 305 306), (0, .class_ 307), (0, .nameAndType 308 309), (0, u "java/lang/Math"), (0, u "min"), (0, u "(II)I"), (0, .methodref 311 128), (0, .class_ 312), (0, u "[B"), (26, .methodref 14 340), (0, .nameAndType 341 342), (0, u "copyOfRangeByte"), (0, u "([BII)[B"), (0, .methodref 14 344), (0, .nameAndType 345 346), (0, u "checkLength"), (0, u "(II)V"), (28, .class_ 376), (0, u "java/util/Arrays$ArrayList"), (68, u "$assertionsDisabled"), (269, u "MIN_ARRAY_SORT_GRAN"), (0, u "I"), (2, u "INSERTIONSORT_THRESHOLD"), (255, .class_ 976), (0, u "java/util/Arrays$ArrayItr")] 52

def k3m0 : Method := { name := "<init>", desc := "()V", sig := { parameters := [], returnType := none }, accessFlags := 2, code := none }
def k3c1 : Code := { maxStack := 4, maxLocals := 2, code := jdk_65_method_131_code, exceptionTable := #[], attributes := #[] }
def k3m1 : Method := { name := "checkLength", desc := "(II)V", sig := { parameters := [.int, .int], returnType := none }, accessFlags := 10, code := some k3c1 }
def k3c2 : Code := { maxStack := 3, maxLocals := 3, code := jdk_65_method_132_code, exceptionTable := #[], attributes := #[] }
def k3m2 : Method := { name := "copyOfRange", desc := "([BII)[B", sig := { parameters := [(.array .byte), .int, .int], returnType := some (.array .byte) }, accessFlags := 9, code := some k3c2 }
def k3c3 : Code := { maxStack := 6, maxLocals := 5, code := jdk_65_method_133_code, exceptionTable := #[], attributes := #[] }
def k3m3 : Method := { name := "copyOfRangeByte", desc := "([BII)[B", sig := { parameters := [(.array .byte), .int, .int], returnType := some (.array .byte) }, accessFlags := 10, code := some k3c3 }
/-- java/util/Arrays -/
def k3 : Class := { plain "java/util/Arrays" (some 0) with
  accessFlags := 49
  interfaces := #[]
  cf := some (fileOf pool3 14 #[.nestMembers #[975, 375, 113, 74]] #[{ accessFlags := 2, nameIndex := 5, descriptorIndex := 6, attributes := #[] }, { accessFlags := 10, nameIndex := 345, descriptorIndex := 346, attributes := #[] }, { accessFlags := 9, nameIndex := 139, descriptorIndex := 342, attributes := #[] }, { accessFlags := 10, nameIndex := 341, descriptorIndex := 342, attributes := #[] }] 49 2 #[] #[{ accessFlags := 26, nameIndex := 715, descriptorIndex := 716, attributes := #[] }, { accessFlags := 26, nameIndex := 719, descriptorIndex := 716, attributes := #[] }, { accessFlags := 4120, nameIndex := 445, descriptorIndex := 117, attributes := #[] }])
  fields := #[{ name := "MIN_ARRAY_SORT_GRAN", type := .int, accessFlags := 26, slot := 0, constantValue := 0 }, { name := "INSERTIONSORT_THRESHOLD", type := .int, accessFlags := 26, slot := 1, constantValue := 0 }, { name := "$assertionsDisabled", type := .boolean, accessFlags := 4120, slot := 2, constantValue := 0 }]
  methods := #[k3m0, k3m1, k3m2, k3m3]
  instanceTypes := #[]
  staticTypes := #[.int, .int, .boolean]
  resolved := Array.replicate 1029 none
  statics := none }

def pool4 : Array CpInfo := pool [(1, .class_ 2), (0, u "java/lang/Cloneable"), (0, .class_ 4), (0, u "java/lang/Object")] 2

/-- java/lang/Cloneable -/
def k4 : Class := { plain "java/lang/Cloneable" (some 0) with
  accessFlags := 1537
  interfaces := #[]
  cf := some (fileOf pool4 1 #[] #[] 1537 3 #[] #[])
  fields := #[]
  methods := #[]
  instanceTypes := #[]
  staticTypes := #[]
  resolved := Array.replicate 7 none
  statics := none }

def pool5 : Array CpInfo := pool [(1, .class_ 2), (0, u "java/lang/Math"), (1, .class_ 6), (1, u "java/lang/Object"), (0, u "<init>"), (0, u "()V"), (89, .class_ 100), (1, u "java/lang/Math$RandomNumberGeneratorHolder"), (71, u "negativeZeroFloatBits"), (0, u "J"), (2, u "negativeZeroDoubleBits"), (24, u "min"), (43, u "$assertionsDisabled"), (0, u "Z"), (88, u "(II)I"), (2, u "twoToTheDoubleScaleDown"), (0, u "D"), (4, u "twoToTheDoubleScaleUp"), (9, u "E"), (3, u "PI"), (2, u "TAU"), (2, u "DEGREES_TO_RADIANS"), (0, u "RADIANS_TO_DEGREES")] 94

def k5m0 : Method := { name := "<init>", desc := "()V", sig := { parameters := [], returnType := none }, accessFlags := 2, code := none }
def k5c1 : Code := { maxStack := 2, maxLocals := 2, code := jdk_29_method_69_code, exceptionTable := #[], attributes := #[] }
def k5m1 : Method := { name := "min", desc := "(II)I", sig := { parameters := [.int, .int], returnType := some .int }, accessFlags := 9, code := some k5c1 }
/-- java/lang/Math -/
def k5 : Class := { plain "java/lang/Math" (some 0) with
  accessFlags := 49
  interfaces := #[]
  cf := some (fileOf pool5 1 #[.nestMembers #[98]] #[{ accessFlags := 2, nameIndex := 7, descriptorIndex := 8, attributes := #[] }, { accessFlags := 9, nameIndex := 201, descriptorIndex := 335, attributes := #[] }] 49 4 #[] #[{ accessFlags := 25, nameIndex := 354, descriptorIndex := 339, attributes := #[] }, { accessFlags := 25, nameIndex := 358, descriptorIndex := 339, attributes := #[] }, { accessFlags := 25, nameIndex := 361, descriptorIndex := 339, attributes := #[] }, { accessFlags := 26, nameIndex := 364, descriptorIndex := 339, attributes := #[] }, { accessFlags := 26, nameIndex := 365, descriptorIndex := 339, attributes := #[] }, { accessFlags := 26, nameIndex := 172, descriptorIndex := 173, attributes := #[] }, { accessFlags := 26, nameIndex := 176, descriptorIndex := 173, attributes := #[] }, { accessFlags := 8, nameIndex := 344, descriptorIndex := 339, attributes := #[] }, { accessFlags := 8, nameIndex := 338, descriptorIndex := 339, attributes := #[] }, { accessFlags := 4120, nameIndex := 245, descriptorIndex := 246, attributes := #[] }])
  fields := #[{ name := "E", type := .double, accessFlags := 25, slot := 0, constantValue := 0 }, { name := "PI", type := .double, accessFlags := 25, slot := 1, constantValue := 0 }, { name := "TAU", type := .double, accessFlags := 25, slot := 2, constantValue := 0 }, { name := "DEGREES_TO_RADIANS", type := .double, accessFlags := 26, slot := 3, constantValue := 0 }, { name := "RADIANS_TO_DEGREES", type := .double, accessFlags := 26, slot := 4, constantValue := 0 }, { name := "negativeZeroFloatBits", type := .long, accessFlags := 26, slot := 5, constantValue := 0 }, { name := "negativeZeroDoubleBits", type := .long, accessFlags := 26, slot := 6, constantValue := 0 }, { name := "twoToTheDoubleScaleUp", type := .double, accessFlags := 8, slot := 7, constantValue := 0 }, { name := "twoToTheDoubleScaleDown", type := .double, accessFlags := 8, slot := 8, constantValue := 0 }, { name := "$assertionsDisabled", type := .boolean, accessFlags := 4120, slot := 9, constantValue := 0 }]
  methods := #[k5m0, k5m1]
  instanceTypes := #[]
  staticTypes := #[.double, .double, .double, .double, .double, .long, .long, .double, .double, .boolean]
  resolved := Array.replicate 460 none
  statics := none }

def pool6 : Array CpInfo := pool [(2, .class_ 4), (1, u "java/lang/Object"), (0, u "<init>"), (0, u "()V"), (1, .class_ 10), (1, u "java/lang/System"), (0, u "allowSecurityManager"), (0, u "I"), (16, u "cons"), (0, u "Ljava/io/Console;"), (77, .class_ 110), (1, u "java/lang/System$CallersHolder"), (43, u "initialErrStream"), (0, u "Ljava/io/PrintStream;"), (19, u "security"), (0, u "Ljava/lang/SecurityManager;"), (31, .class_ 209), (0, u "java/lang/System$1"), (7, u "props"), (0, u "Ljava/util/Properties;"), (2, u "lineSeparator"), (0, u "Ljava/lang/String;"), (96, .class_ 321), (1, u "java/lang/System$LoggerFinder"), (5, .class_ 328), (0, u "java/lang/System$Logger"), (67, u "err"), (2, u "out"), (91, u "notSupportedJnuEncoding"), (15, u "in"), (17, u "initialIn"), (0, u "Ljava/io/InputStream;"), (35, u "bootLayer"), (0, u "Ljava/lang/ModuleLayer;"), (99, .class_ 664), (0, u "java/lang/System$2"), (9, u "NEVER"), (2, u "MAYBE"), (49, u "arraycopy"), (0, u "(Ljava/lang/Object;ILjava/lang/Object;II)V"), (72, .class_ 802), (0, u "java/lang/System$Logger$Level")] 31

def k6m0 : Method := { name := "<init>", desc := "()V", sig := { parameters := [], returnType := none }, accessFlags := 2, code := none }
def k6m1 : Method := { name := "arraycopy", desc := "(Ljava/lang/Object;ILjava/lang/Object;II)V", sig := { parameters := [(.object "java/lang/Object"), .int, (.object "java/lang/Object"), .int, .int], returnType := none }, accessFlags := 265, code := none }
/-- java/lang/System -/
def k6 : Class := { plain "java/lang/System" (some 0) with
  accessFlags := 49
  interfaces := #[]
  cf := some (fileOf pool6 8 #[.nestMembers #[319, 327, 801, 108, 663, 208]] #[{ accessFlags := 2, nameIndex := 5, descriptorIndex := 6, attributes := #[] }, { accessFlags := 265, nameIndex := 727, descriptorIndex := 728, attributes := #[] }] 49 2 #[] #[{ accessFlags := 25, nameIndex := 507, descriptorIndex := 526, attributes := #[] }, { accessFlags := 25, nameIndex := 399, descriptorIndex := 155, attributes := #[] }, { accessFlags := 25, nameIndex := 396, descriptorIndex := 155, attributes := #[] }, { accessFlags := 10, nameIndex := 525, descriptorIndex := 526, attributes := #[] }, { accessFlags := 26, nameIndex := 674, descriptorIndex := 12, attributes := #[] }, { accessFlags := 26, nameIndex := 677, descriptorIndex := 12, attributes := #[] }, { accessFlags := 10, nameIndex := 11, descriptorIndex := 12, attributes := #[] }, { accessFlags := 74, nameIndex := 175, descriptorIndex := 176, attributes := #[] }, { accessFlags := 10, nameIndex := 491, descriptorIndex := 222, attributes := #[] }, { accessFlags := 74, nameIndex := 29, descriptorIndex := 30, attributes := #[] }, { accessFlags := 74, nameIndex := 154, descriptorIndex := 155, attributes := #[] }, { accessFlags := 10, nameIndex := 217, descriptorIndex := 218, attributes := #[] }, { accessFlags := 10, nameIndex := 221, descriptorIndex := 222, attributes := #[] }, { accessFlags := 8, nameIndex := 562, descriptorIndex := 563, attributes := #[] }])
  fields := #[{ name := "in", type := (.object "java/io/InputStream"), accessFlags := 25, slot := 0, constantValue := 0 }, { name := "out", type := (.object "java/io/PrintStream"), accessFlags := 25, slot := 1, constantValue := 0 }, { name := "err", type := (.object "java/io/PrintStream"), accessFlags := 25, slot := 2, constantValue := 0 }, { name := "initialIn", type := (.object "java/io/InputStream"), accessFlags := 10, slot := 3, constantValue := 0 }, { name := "NEVER", type := .int, accessFlags := 26, slot := 4, constantValue := 0 }, { name := "MAYBE", type := .int, accessFlags := 26, slot := 5, constantValue := 0 }, { name := "allowSecurityManager", type := .int, accessFlags := 10, slot := 6, constantValue := 0 }, { name := "security", type := (.object "java/lang/SecurityManager"), accessFlags := 74, slot := 7, constantValue := 0 }, { name := "notSupportedJnuEncoding", type := (.object "java/lang/String"), accessFlags := 10, slot := 8, constantValue := 0 }, { name := "cons", type := (.object "java/io/Console"), accessFlags := 74, slot := 9, constantValue := 0 }, { name := "initialErrStream", type := (.object "java/io/PrintStream"), accessFlags := 74, slot := 10, constantValue := 0 }, { name := "props", type := (.object "java/util/Properties"), accessFlags := 10, slot := 11, constantValue := 0 }, { name := "lineSeparator", type := (.object "java/lang/String"), accessFlags := 10, slot := 12, constantValue := 0 }, { name := "bootLayer", type := (.object "java/lang/ModuleLayer"), accessFlags := 8, slot := 13, constantValue := 0 }]
  methods := #[k6m0, k6m1]
  instanceTypes := #[]
  staticTypes := #[(.object "java/io/InputStream"), (.object "java/io/PrintStream"), (.object "java/io/PrintStream"), (.object "java/io/InputStream"), .int, .int, .int, (.object "java/lang/SecurityManager"), (.object "java/lang/String"), (.object "java/io/Console"), (.object "java/io/PrintStream"), (.object "java/util/Properties"), (.object "java/lang/String"), (.object "java/lang/ModuleLayer")]
  resolved := Array.replicate 834 none
  statics := none }

def pool7 : Array CpInfo := pool [(1, u "java/io/Serializable"), (0, .class_ 1), (0, u "java/lang/Object"), (0, .class_ 3)] 3

/-- java/io/Serializable -/
def k7 : Class := { plain "java/io/Serializable" (some 0) with
  accessFlags := 1537
  interfaces := #[]
  cf := some (fileOf pool7 2 #[] #[] 1537 4 #[] #[])
  fields := #[]
  methods := #[]
  instanceTypes := #[]
  staticTypes := #[]
  resolved := Array.replicate 8 none
  statics := none }

/-- the primitive byte -/
def k8 : Class := { plain "byte" none with kind := .primitive 'B', accessFlags := 0x411 }
/-- [B -/
def k9 : Class := { plain "[B" (some 0) with kind := .array 8 .byte, interfaces := #[4, 7], accessFlags := 1041 }

/-- the primitive int -/
def k10 : Class := { plain "int" none with kind := .primitive 'I', accessFlags := 0x411 }
/-- [I -/
def k11 : Class := { plain "[I" (some 0) with kind := .array 10 .int, interfaces := #[4, 7], accessFlags := 1041 }

def heap : Heap := #[]
def classes : Array Class := #[k0, k1, k2, k3, k4, k5, k6, k7, k8, k9, k10, k11]
def interned : List (Array UInt16 × Addr) := []
def slotsUsed : Nat := 0
def theMethod : MethodId := ⟨1, 1⟩
def args0 : Array Value := #[.int 5, .int 3]
def aboutOver (below : List Frame) : State where
  vm := { classes := classes, interned := interned.toArray }
  heap := heap
  slotsUsed := slotsUsed
  threads := #[{ frames := .invoking theMethod args0 :: below }]
def below0 : List Frame := [.native { method := ⟨0, 0⟩, args := #[] }]
def about1 : State := aboutOver below0
def p0 : Program := .bare "" "" ""
def e0 : Env := launch0.env 0 0 0
theorem w_frames : about1.frames = Frame.invoking theMethod args0 :: below0 := rfl
set_option maxRecDepth 65536 in
theorem w_args : argsFit about1.vm theMethod args0 = true := by decide +kernel
set_option maxRecDepth 65536 in
theorem w_heap : heapFits about1 = true := by decide +kernel
set_option maxRecDepth 65536 in
theorem w_runnable : about1.curStatus? = some .runnable := by decide +kernel
set_option maxRecDepth 65536 in
theorem w_alone : about1.alone = true := by decide +kernel
set_option maxRecDepth 65536 in
theorem w_named : about1.methodNamed? x = some theMethod := by decide +kernel
set_option maxRecDepth 65536 in
theorem w_hears : about1.hears theMethod below0 = true := by decide +kernel
set_option maxRecDepth 65536 in
theorem w_ripe : about1.ripe theMethod args0 below0 = true := by decide +kernel
theorem w_running : about1.status = .running := rfl
set_option maxRecDepth 65536 in
theorem w_room : about1.hasRoom e0.platform room_1 = true :=
  launch0.hasRoom_least _ room_1 (by decide +kernel) (by decide +kernel) (by decide +kernel) (by decide +kernel) (by decide +kernel) (by decide +kernel)
theorem allAtoms_all (ts : List Jvm.Cond) (a : Array Jvm.Value) (st : Jvm.State) : (allAtoms ts).before a st = ts.all (fun c => c.before a st) := by
  induction ts with
  | nil => rfl
  | cons c t ih =>
    show (Jvm.Cond.and c (allAtoms t)).before a st = _
    rw [Jvm.Cond.before_and, ih, List.all_cons]
def words1 : List Jvm.Cond := Jvm.Cond.code x code maxLocals ret :: tables_1
/-- a 'code' word, met by the world's own term for the bytes: nothing is compared byte by byte -/
theorem code_word {y : MethodName} {bytes : ByteArray} {mx : Nat} {rt : Option FieldType} {a : Array Value} {s : State} {m : MethodId} {meth : Method} {c : Code} (h1 : s.methodNamed? y = some m) (h2 : s.vm.method? m = some meth) (h3 : meth.code = some c) (h4 : c.code = bytes)
    (h5 : (c.maxLocals == mx && c.exceptionTable.isEmpty && decide (c.maxStack ≤ mostOperands) && decide (meth.sig.returnType = rt) && !meth.locks && decide (parseMethodDescriptor y.desc = some meth.sig)) = true) : (Jvm.Cond.code y bytes mx rt).before a s = true := by
  simp only [Bool.and_eq_true, beq_iff_eq, Bool.not_eq_true', decide_eq_true_eq] at h5
  obtain ⟨⟨⟨⟨⟨g1, g2⟩, g3⟩, g4⟩, g5⟩, g6⟩ := h5
  simp [Cond.before, Cond.holds, Cond.value, h1, h2, h3, h4, g1, g2, g3, g4, g5, g6]
def isCode : Jvm.Cond → Bool
  | .code _ _ _ _ => true
  | _ => false
theorem all_split {L : List Jvm.Cond} {P : Jvm.Cond → Bool} (h1 : L.all (fun c => isCode c || P c) = true) (h2 : ∀ c ∈ L.filter isCode, P c = true) : L.all P = true := by
  refine List.all_eq_true.mpr fun c hc => ?_
  have h := List.all_eq_true.mp h1 c hc
  rcases Bool.eq_false_or_eq_true (isCode c) with hi | hi
  · exact h2 c (List.mem_filter.mpr ⟨hc, hi⟩)
  · simpa [hi] using h
set_option maxRecDepth 65536 in
theorem w_c0 : (Jvm.Cond.code x code maxLocals ret).before args0 about1 = true := code_word (m := ⟨1, 1⟩) (meth := k1m1) (c := k1c1) (by decide +kernel) rfl rfl rfl (by decide +kernel)
set_option maxRecDepth 65536 in
theorem w_c1 : (Jvm.Cond.code ({ cls := "com/example/ratatoskr/ratatoskr/io/FrameReader", name := "<init>", desc := "([B)V" } : Jvm.MethodName) prog_14_method_1_code (2 : Nat) (Option.none : Option Jvm.ClassFile.FieldType)).before args0 about1 = true := code_word (m := ⟨2, 0⟩) (meth := k2m0) (c := k2c0) (by decide +kernel) rfl rfl rfl (by decide +kernel)
set_option maxRecDepth 65536 in
theorem w_c2 : (Jvm.Cond.code ({ cls := "java/lang/Object", name := "<init>", desc := "()V" } : Jvm.MethodName) object_method_1_code (1 : Nat) (Option.none : Option Jvm.ClassFile.FieldType)).before args0 about1 = true := code_word (m := ⟨0, 0⟩) (meth := k0m0) (c := k0c0) (by decide +kernel) rfl rfl rfl (by decide +kernel)
set_option maxRecDepth 65536 in
theorem w_c3 : (Jvm.Cond.code ({ cls := "com/example/ratatoskr/ratatoskr/io/FrameReader", name := "isReadable", desc := "()Z" } : Jvm.MethodName) prog_14_method_3_code (1 : Nat) (Option.some Jvm.ClassFile.FieldType.boolean)).before args0 about1 = true := code_word (m := ⟨2, 2⟩) (meth := k2m2) (c := k2c2) (by decide +kernel) rfl rfl rfl (by decide +kernel)
set_option maxRecDepth 65536 in
theorem w_c4 : (Jvm.Cond.code ({ cls := "com/example/ratatoskr/ratatoskr/io/FrameReader", name := "readBytes", desc := "(I)[B" } : Jvm.MethodName) prog_14_method_9_code (3 : Nat) (Option.some (Jvm.ClassFile.FieldType.array Jvm.ClassFile.FieldType.byte))).before args0 about1 = true := code_word (m := ⟨2, 3⟩) (meth := k2m3) (c := k2c3) (by decide +kernel) rfl rfl rfl (by decide +kernel)
set_option maxRecDepth 65536 in
theorem w_c5 : (Jvm.Cond.code ({ cls := "com/example/ratatoskr/ratatoskr/io/FrameReader", name := "require", desc := "(I)V" } : Jvm.MethodName) prog_14_method_12_code (2 : Nat) (Option.none : Option Jvm.ClassFile.FieldType)).before args0 about1 = true := code_word (m := ⟨2, 4⟩) (meth := k2m4) (c := k2c4) (by decide +kernel) rfl rfl rfl (by decide +kernel)
set_option maxRecDepth 65536 in
theorem w_c6 : (Jvm.Cond.code ({ cls := "com/example/ratatoskr/ratatoskr/io/FrameReader", name := "readableBytes", desc := "()I" } : Jvm.MethodName) prog_14_method_2_code (1 : Nat) (Option.some Jvm.ClassFile.FieldType.int)).before args0 about1 = true := code_word (m := ⟨2, 1⟩) (meth := k2m1) (c := k2c1) (by decide +kernel) rfl rfl rfl (by decide +kernel)
set_option maxRecDepth 65536 in
theorem w_c7 : (Jvm.Cond.code ({ cls := "java/util/Arrays", name := "copyOfRange", desc := "([BII)[B" } : Jvm.MethodName) jdk_65_method_132_code (3 : Nat) (Option.some (Jvm.ClassFile.FieldType.array Jvm.ClassFile.FieldType.byte))).before args0 about1 = true := code_word (m := ⟨3, 2⟩) (meth := k3m2) (c := k3c2) (by decide +kernel) rfl rfl rfl (by decide +kernel)
set_option maxRecDepth 65536 in
theorem w_c8 : (Jvm.Cond.code ({ cls := "java/util/Arrays", name := "copyOfRangeByte", desc := "([BII)[B" } : Jvm.MethodName) jdk_65_method_133_code (5 : Nat) (Option.some (Jvm.ClassFile.FieldType.array Jvm.ClassFile.FieldType.byte))).before args0 about1 = true := code_word (m := ⟨3, 3⟩) (meth := k3m3) (c := k3c3) (by decide +kernel) rfl rfl rfl (by decide +kernel)
set_option maxRecDepth 65536 in
theorem w_c9 : (Jvm.Cond.code ({ cls := "java/util/Arrays", name := "checkLength", desc := "(II)V" } : Jvm.MethodName) jdk_65_method_131_code (2 : Nat) (Option.none : Option Jvm.ClassFile.FieldType)).before args0 about1 = true := code_word (m := ⟨3, 1⟩) (meth := k3m1) (c := k3c1) (by decide +kernel) rfl rfl rfl (by decide +kernel)
set_option maxRecDepth 65536 in
theorem w_c10 : (Jvm.Cond.code ({ cls := "java/lang/Math", name := "min", desc := "(II)I" } : Jvm.MethodName) jdk_29_method_69_code (2 : Nat) (Option.some Jvm.ClassFile.FieldType.int)).before args0 about1 = true := code_word (m := ⟨5, 1⟩) (meth := k5m1) (c := k5c1) (by decide +kernel) rfl rfl rfl (by decide +kernel)
def codes1 : List Jvm.Cond := [Jvm.Cond.code x code maxLocals ret, Jvm.Cond.code ({ cls := "com/example/ratatoskr/ratatoskr/io/FrameReader", name := "<init>", desc := "([B)V" } : Jvm.MethodName) prog_14_method_1_code (2 : Nat) (Option.none : Option Jvm.ClassFile.FieldType), Jvm.Cond.code ({ cls := "java/lang/Object", name := "<init>", desc := "()V" } : Jvm.MethodName) object_method_1_code (1 : Nat) (Option.none : Option Jvm.ClassFile.FieldType), Jvm.Cond.code ({ cls := "com/example/ratatoskr/ratatoskr/io/FrameReader", name := "isReadable", desc := "()Z" } : Jvm.MethodName) prog_14_method_3_code (1 : Nat) (Option.some Jvm.ClassFile.FieldType.boolean), Jvm.Cond.code ({ cls := "com/example/ratatoskr/ratatoskr/io/FrameReader", name := "readBytes", desc := "(I)[B" } : Jvm.MethodName) prog_14_method_9_code (3 : Nat) (Option.some (Jvm.ClassFile.FieldType.array Jvm.ClassFile.FieldType.byte)), Jvm.Cond.code ({ cls := "com/example/ratatoskr/ratatoskr/io/FrameReader", name := "require", desc := "(I)V" } : Jvm.MethodName) prog_14_method_12_code (2 : Nat) (Option.none : Option Jvm.ClassFile.FieldType), Jvm.Cond.code ({ cls := "com/example/ratatoskr/ratatoskr/io/FrameReader", name := "readableBytes", desc := "()I" } : Jvm.MethodName) prog_14_method_2_code (1 : Nat) (Option.some Jvm.ClassFile.FieldType.int), Jvm.Cond.code ({ cls := "java/util/Arrays", name := "copyOfRange", desc := "([BII)[B" } : Jvm.MethodName) jdk_65_method_132_code (3 : Nat) (Option.some (Jvm.ClassFile.FieldType.array Jvm.ClassFile.FieldType.byte)), Jvm.Cond.code ({ cls := "java/util/Arrays", name := "copyOfRangeByte", desc := "([BII)[B" } : Jvm.MethodName) jdk_65_method_133_code (5 : Nat) (Option.some (Jvm.ClassFile.FieldType.array Jvm.ClassFile.FieldType.byte)), Jvm.Cond.code ({ cls := "java/util/Arrays", name := "checkLength", desc := "(II)V" } : Jvm.MethodName) jdk_65_method_131_code (2 : Nat) (Option.none : Option Jvm.ClassFile.FieldType), Jvm.Cond.code ({ cls := "java/lang/Math", name := "min", desc := "(II)I" } : Jvm.MethodName) jdk_29_method_69_code (2 : Nat) (Option.some Jvm.ClassFile.FieldType.int)]
set_option maxRecDepth 65536 in
theorem codes_eq : words1.filter isCode = codes1 := rfl
theorem w_codes : ∀ c ∈ words1.filter isCode, c.before args0 about1 = true := by
  rw [codes_eq]
  intro c hc
  simp only [codes1, List.mem_cons, List.not_mem_nil, or_false] at hc
  rcases hc with rfl | rfl | rfl | rfl | rfl | rfl | rfl | rfl | rfl | rfl | rfl
  · exact w_c0
  · exact w_c1
  · exact w_c2
  · exact w_c3
  · exact w_c4
  · exact w_c5
  · exact w_c6
  · exact w_c7
  · exact w_c8
  · exact w_c9
  · exact w_c10
set_option maxRecDepth 65536 in
theorem w_t1 : (words1.take 24).all (fun c => isCode c || c.before args0 about1) = true := by decide +kernel
set_option maxRecDepth 65536 in
theorem w_t2 : ((words1.drop 24).take 24).all (fun c => isCode c || c.before args0 about1) = true := by decide +kernel
set_option maxRecDepth 65536 in
theorem w_t3 : ((words1.drop 24).drop 24).all (fun c => isCode c || c.before args0 about1) = true := by decide +kernel
theorem w_tables : (allAtoms (Jvm.Cond.code x code maxLocals ret :: tables_1)).before args0 about1 = true := by
  rw [allAtoms_all]
  show words1.all (fun c => c.before args0 about1) = true
  refine all_split ?_ w_codes
  rw [← List.take_append_drop 24 words1, List.all_append, w_t1, ← List.take_append_drop 24 (words1.drop 24), List.all_append, w_t2, w_t3]
  rfl
set_option maxRecDepth 65536 in
theorem w_case : (Jvm.Cond.and given_1 narrow_1).before args0 about1 = true := by decide +kernel
theorem w_applies : (headSpec (Jvm.Cond.code x code maxLocals ret :: tables_1) room_1).applies x e0.platform about1 = true :=
  (Spec.applies_iff w_frames).mpr ⟨w_running, w_runnable, w_alone, w_named, w_hears, w_ripe, w_room, w_tables⟩
theorem atStart : AtStart classFile x code maxLocals ret World_1 tables_1 room_1 Calls_1 rest_1 Pre_1 launch0 p0 e0 about1 theMethod args0 below0 :=
  ⟨lists_1, trivial, launch0.admits_env _ _ _, launch0.least_env, fairChoices_fair.cas, fairChoices_fair.clock, w_frames, w_args, w_heap, w_applies, trivial, trivial, w_case⟩
end start1
theorem witness_1 : WitnessClaimed_1 := ⟨start1.p0, start1.e0, start1.about1, start1.theMethod, start1.args0, start1.below0, start1.atStart⟩
end Jvm.Pilot.@@N@@
