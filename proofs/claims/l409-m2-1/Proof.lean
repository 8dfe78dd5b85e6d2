import JvmDerived
import JvmDerived.Pilot.@@N@@Statement
import JvmDerived.Pilot.@@N@@Code
set_option linter.unusedVariables false
set_option linter.unusedSimpArgs false
namespace Jvm.RoadKit
open Sem ClassFile Op Lib Jvm.Stand Jvm.Free Jvm.LawKit
section New
variable {p : Program} {l : Launch} {e : Env} {R : Room} {s : State} {m : MethodId} {args : Array Value} {below : List Frame} {meth : Method} {c : Code} {T : State} {locs : List Loc} {cells slots : Nat}
theorem retI (X : Stand p l e R s m args below meth c T locs cells slots) (hx : p.tables.exec = Jvm.exec) {pc : Nat} {Ls : Array Slot} {z : Int32} {rest : List Value} (hret : meth.sig.returnType = some .int) (hd : decode c.code pc = .ok (.ireturn, 1)) {fs : List Frame}
    (hl : ∀ (f : JFrame) (acts : List Action), f.method = m → f.locked = none → f.entered = [] → (doReturn e (T.setTop f) acts (some (.int z))).1 = T.setFrames fs) : Steps p.tables e below (T.setTop (mkF m pc Ls (.int z :: rest))) (T.setFrames fs) :=
  retOut X hx hret rfl (Or.inl ⟨rfl, Or.inl rfl, z, rfl⟩) hd hl
end New
end Jvm.RoadKit
namespace Jvm.Pilot.@@N@@
open Jvm Jvm.ClassFile Sem Op Lib Jvm.Free Jvm.Stand Jvm.LawKit Jvm.RoadKit Bundle Jvm.Pilot.@@N@@.Jvm.D
theorem own_selpriv {s : State} {args : Array Value} {y : MethodName} {n : Nat} (hins : (Jvm.Cond.instantiable y.cls n).before args s = true) (hpriv : (Jvm.Cond.privateMethod y).before args s = true) (hinst : (Jvm.Cond.instanceMethod y).before args s = true) (hy : y.cls ≠ "java/lang/invoke/MethodHandle" ∧ y.cls ≠ "java/lang/invoke/VarHandle") :
    (Jvm.Cond.selects y.cls y y).before args s = true := by
  obtain ⟨c, k, hc, hk, -, hniab, -, -⟩ := Cond.instantiable_spec hins
  have hni : k.isInterface = false := (Bool.or_eq_false_iff.mp hniab).1
  obtain ⟨mk, methM, hnamed, hmethM, -, -⟩ := Cond.instanceMethod_spec hinst
  have hfound : s.methodFound? y.cls y.name y.desc = some mk := State.methodFound?_of_named hnamed hy
  have hcls : mk.cls = c := Option.some.inj ((findClass_of_methodNamed hnamed).symm.trans hc)
  have hsel : selectMethod {} s.vm c mk = .method mk := selectMethod_private hmethM (Cond.privateMethod_at hpriv mk methM hnamed hmethM)
  simp only [Cond.before, Cond.holds, Cond.value, hc, hfound, hnamed, hsel, hcls, hk]
  simp; exact hni
theorem own_nsE {Z : State} {h : Heap} {a : Addr} {C : String} (F : Exa Z h a C) : ∀ c : Cell, h[a]? = some c → c.vm.isStatics = false := by
  obtain ⟨c, k, h1, -, -, h4, -⟩ := F
  intro c' hc; cases h1.symm.trans hc; exact h4
theorem own_nsV {Z : State} {h : Heap} {a : Addr} {k : ClassId} {ty : FieldType} {z : Int32} {vs : List Value} {dv : Value} (F : Arv Z h a k ty z vs dv) : ∀ c : Cell, h[a]? = some c → c.vm.isStatics = false := by
  obtain ⟨c, A, -⟩ := F
  intro c' hc; cases A.1.symm.trans hc; exact A.plain
theorem own_stakeep {Z : State} {h h' : Heap} {C n d : String} {v : Value} {ws : List Addr} (F : Sta Z h C n d v) (K : Keep h h' ws) (q : ∀ x ∈ ws, ∀ c : Cell, h[x]? = some c → c.vm.isStatics = false) : Sta Z h' C n d v := by
  obtain ⟨cf, i, k, f, st, cell, h1, h2, h3, h4, h5, h6, h7⟩ := F
  refine ⟨cf, i, k, f, st, cell, h1, h2, h3, h4, K.2.1 _ _ h5 (fun hm => ?_), h6, h7⟩
  rw [q st hm cell h5] at h6; cases h6
theorem own_ex {args : Array Value} {s : State} {t : Term} {C : String} (h : (Jvm.Cond.exactly t C).value args s none s [] = some true) : ∃ a, t.eval args s none [] s = some (.ref a) ∧ Exa s s.heap a C := by
  obtain ⟨a, e1⟩ := exa_v h; exact ⟨a, e1, Exa.start e1 h⟩
theorem own_evI {args : Array Value} {s : State} {t : Term} {z : Int32} (h : (Jvm.Cond.eq t (.int z)).value args s none s [] = some true) : t.eval args s none [] s = some (.int z) := by
  cases hv : t.eval args s none [] s with
  | none => simp [Cond.value, hv] at h
  | some x => cases x <;> simp [Cond.value, Term.eval, hv] at h ⊢; exact h
theorem own_evJ {args : Array Value} {s : State} {t : Term} {z : Int64} (h : (Jvm.Cond.eq t (.long z)).value args s none s [] = some true) : t.eval args s none [] s = some (.long z) := by
  cases hv : t.eval args s none [] s with
  | none => simp [Cond.value, hv] at h
  | some x => cases x <;> simp [Cond.value, Term.eval, hv] at h ⊢; exact h
theorem own_fldV {args : Array Value} {s : State} {t : Term} {a : Addr} {C n d : String} {v : Value} (ev : t.eval args s none [] s = some (.ref a)) (h : (Term.field t C n d).eval args s none [] s = some v) : Fld s s.heap a C n d v := by
  refine Fld.start ?_
  rw [← fld_at (args := args) (first := s) (o := none) (idx := []) ev]; exact h
theorem own_lt (a b : Int32) : a < b ↔ a.toInt < b.toInt := Int32.lt_iff_toInt_lt
theorem own_le (a b : Int32) : a ≤ b ↔ a.toInt ≤ b.toInt := Int32.le_iff_toInt_le
theorem own_eqi (a b : Int32) : a = b ↔ a.toInt = b.toInt := Int32.toInt_inj.symm
theorem own_ltL (a b : Int64) : a < b ↔ a.toInt < b.toInt := Int64.lt_iff_toInt_lt
theorem own_eqL (a b : Int64) : a = b ↔ a.toInt = b.toInt := Int64.toInt_inj.symm
theorem own_evR {args : Array Value} {s : State} {t u : Term} {a : Addr} (h : (Jvm.Cond.eq t u).value args s none s [] = some true) (hu : u.eval args s none [] s = some (.ref a)) : t.eval args s none [] s = some (.ref a) := by
  cases hv : t.eval args s none [] s with
  | none => simp [Cond.value, hv] at h
  | some x => cases x <;> simp [Cond.value, hu, hv] at h ⊢; exact h
theorem own_len {args : Array Value} {s : State} {t : Term} {a : Addr} {cl : Cell} {z : Int32} (ev : t.eval args s none [] s = some (.ref a)) (hc : s.arrayAt? a = some cl) (h : (Term.length t).eval args s none [] s = some (.int z)) : cl.slots.size < 2 ^ 31 ∧ cl.slots.size.toInt32 = z := by
  by_cases q : cl.slots.size < 2147483648
  · simp [Term.eval, ev, hc, q] at h; exact ⟨q, h⟩
  · simp [Term.eval, ev, hc, q] at h
theorem own_pos (x : Int32) : 0 ≤ (x &&& (2147483647 : Int32)).toInt ∧ (x &&& (2147483647 : Int32)).toInt < 2147483648 := by
  have h := c_mask x 2147483647 31 (by decide) (by decide)
  rw [h]; omega
theorem own_mod6 (x : Int32) : (x &&& (2147483647 : Int32)) % (6 : Int32) = (0 : Int32) ∨ (x &&& (2147483647 : Int32)) % (6 : Int32) = (1 : Int32) ∨ (x &&& (2147483647 : Int32)) % (6 : Int32) = (2 : Int32) ∨ (x &&& (2147483647 : Int32)) % (6 : Int32) = (3 : Int32) ∨ (x &&& (2147483647 : Int32)) % (6 : Int32) = (4 : Int32) ∨ (x &&& (2147483647 : Int32)) % (6 : Int32) = (5 : Int32) := by
  have h := own_pos x
  have q := (c_irem (x &&& (2147483647 : Int32)) (6 : Int32) 6 rfl).1 h.1
  simp only [own_eqi]
  rw [q]
  rw [show (0 : Int32).toInt = 0 from rfl, show (1 : Int32).toInt = 1 from rfl, show (2 : Int32).toInt = 2 from rfl, show (3 : Int32).toInt = 3 from rfl, show (4 : Int32).toInt = 4 from rfl, show (5 : Int32).toInt = 5 from rfl]
  omega

theorem pn_0 : plainName "java/lang/Enum" = true := by first | (simp [plainName, overriddenIn]; done) | decide +kernel
theorem d1_0 : decode jdk_37_method_2_code 0 = .ok (.aload_n 0, 1) := by decide +kernel
theorem d1_1 : decode jdk_37_method_2_code 1 = .ok (.getfield 7, 3) := by decide +kernel
theorem d1_4 : decode jdk_37_method_2_code 4 = .ok (.ireturn, 1) := by decide +kernel
theorem ef_1 (m : MethodId) (a1_0 : Addr) : entryFrame m #[(.ref a1_0)] 1 = mkF m 0 #[.val (.ref a1_0)] [] := by first | (simp [entryFrame, mkF, argsToLocals, Value.category]; done) | rfl
def Q1 (Z : State) (a1_0 : Addr) (h0 : Heap) (n0 : Nat) (v : Option Value) (h : Heap) (L : List Loc) : Prop := v = some (.int (0 : Int32)) ∧ Fr n0 L ∧ h = h0
set_option maxRecDepth 65536 in
set_option maxHeartbeats 40000000 in
theorem rm1 (l : Launch) (Z : State) (a0 : Array Value) (hw : ∀ d ∈ tables_1, d.before a0 Z = true) (ws : List Jvm.Cond) (a1_0 : Addr) (h0 : Heap) (n0 : Nat) (Z0 : n0 ≤ h0.size) (Fo : Fld Z h0 a1_0 "java/lang/Enum" "ordinal" "I" (.int (0 : Int32))) :
    MetFree l (⟨"java/lang/Enum", "ordinal", "()I"⟩ : MethodName) (head1 (Jvm.Cond.code (⟨"java/lang/Enum", "ordinal", "()I"⟩ : MethodName) jdk_37_method_2_code 1 (some .int) :: ws) ({ frames := 0, cells := 0, slots := 0, locals := 0 } : Room)) (fun a U => a = #[(.ref a1_0)] ∧ Z.Warmed39 U.vm ∧ U.heap = h0) (fun _ _ _ _ _ => True) (fun _ U o U' => ∃ v L, o = .returned v ∧ Q1 Z a1_0 h0 n0 v U'.heap L ∧ FrameEnd U o U' L ({ frames := 0, cells := 0, slots := 0, locals := 0 } : Room).cells ({ frames := 0, cells := 0, slots := 0, locals := 0 } : Room).slots) := by
  refine MetFree.of_bodySF (plainFor_of_name pn_0) hisR ?_
  intro p e s m args below meth c s₁ Bd hml0 hP hK
  obtain ⟨rfl, hZ, hh⟩ := hP
  have hx := Bd.exec
  have hby := Bd.bytes
  have hml : c.maxLocals = 1 := hml0
  have hown : s.vm.findClass "java/lang/Enum" = some m.cls := findClass_of_methodNamed Bd.named
  have hnm := (name_of_methodNamed Bd.named Bd.method).1
  have X0 : Stand p l e ({ frames := 0, cells := 0, slots := 0, locals := 0 } : Room) s m #[(.ref a1_0)] below meth c s₁ [] 0 0 := Stand.of_body Bd
  have e0 : s₁.heap = h0 := by rw [← hh, Bd.state]; rfl
  have N0 := Fr.nil n0
  have pre0 : ∀ t, Steps p.tables e below (s₁.setTop (mkF m 0 #[.val (.ref a1_0)] [])) t → Steps p.tables e below (s₁.setTop (entryFrame m #[(.ref a1_0)] 1)) t := fun t k => castTop (ef_1 m a1_0) k
  obtain ⟨T1, X1, e1, st1⟩ := getF X0 hx hZ hown (host := "") (Or.inl (hw _ (List.mem_of_getElem? (i := 26) rfl))) Via.refl e0 Fo (g := (mkF m 1 #[.val (.ref a1_0)] [(.ref a1_0)])) rfl rfl (hb hby d1_1)
  have k2 : ∀ t, Steps p.tables e below (T1.setTop (mkF m 4 #[.val (.ref a1_0)] [(.int (0 : Int32))])) t → Steps p.tables e below (s₁.setTop (entryFrame m #[(.ref a1_0)] 1)) t := by
    intro t k
    refine pre0 t ?_
    show Steps p.tables e below (s₁.setTop (mkF m 0 #[.val (.ref a1_0)] [])) _
    refine XS.aloadN X0.here hx rfl (hb hby d1_0) rfl rfl ?_
    show Steps p.tables e below (s₁.setTop (mkF m 1 #[.val (.ref a1_0)] [(.ref a1_0)])) _
    refine st1 _ ?_
    exact k
  obtain ⟨fs, hr, hrun, hended, hW, hsame⟩ := X1.leave (v := some (.int (0 : Int32))) (fun h => by rw [Bd.returns] at h; cases h)
  refine ⟨_, _, k2 _ ?_, hrun, hended, _, _, rfl, ?_, ⟨_, rfl⟩, hW, hsame.mono (by decide) (by decide)⟩
  · exact retI X1 hx Bd.returns (hb hby d1_4) hr
  · show Q1 Z a1_0 h0 n0 _ T1.heap _
    rw [e1]
    exact ⟨rfl, N0, rfl⟩
theorem pn_1 : plainName "com/example/chop/chop/model/Relation" = true := by first | (simp [plainName, overriddenIn]; done) | decide +kernel
theorem d2_0 : decode prog_4_method_6_code 0 = .ok (.aload_n 0, 1) := by decide +kernel
theorem d2_1 : decode prog_4_method_6_code 1 = .ok (.getstatic 3, 3) := by decide +kernel
theorem d2_4 : decode prog_4_method_6_code 4 = .ok (.if_acmp .eq 14, 3) := by decide +kernel
theorem d2_18 : decode prog_4_method_6_code 18 = .ok (.iconst 0, 1) := by decide +kernel
theorem d2_19 : decode prog_4_method_6_code 19 = .ok (.ireturn, 1) := by decide +kernel
theorem ef_2 (m : MethodId) (u_EQUAL : Addr) : entryFrame m #[(.ref u_EQUAL)] 1 = mkF m 0 #[.val (.ref u_EQUAL)] [] := by first | (simp [entryFrame, mkF, argsToLocals, Value.category]; done) | rfl
def Q2 (Z : State) (u_EQUAL : Addr) (h0 : Heap) (n0 : Nat) (v : Option Value) (h : Heap) (L : List Loc) : Prop := v = some (.int (0 : Int32)) ∧ Fr n0 L ∧ h = h0
set_option maxRecDepth 65536 in
set_option maxHeartbeats 40000000 in
theorem rm2 (l : Launch) (Z : State) (a0 : Array Value) (hw : ∀ d ∈ tables_1, d.before a0 Z = true) (ws : List Jvm.Cond) (u_EQUAL : Addr) (h0 : Heap) (n0 : Nat) (Z0 : n0 ≤ h0.size) (S_EQUAL : Sta Z h0 "com/example/chop/chop/model/Relation" "EQUAL" "Lcom/example/chop/chop/model/Relation;" (.ref u_EQUAL)) :
    MetFree l (⟨"com/example/chop/chop/model/Relation", "isBound", "()Z"⟩ : MethodName) (head1 (Jvm.Cond.code (⟨"com/example/chop/chop/model/Relation", "isBound", "()Z"⟩ : MethodName) prog_4_method_6_code 1 (some .boolean) :: ws) ({ frames := 0, cells := 0, slots := 0, locals := 0 } : Room)) (fun a U => a = #[(.ref u_EQUAL)] ∧ Z.Warmed39 U.vm ∧ U.heap = h0) (fun _ _ _ _ _ => True) (fun _ U o U' => ∃ v L, o = .returned v ∧ Q2 Z u_EQUAL h0 n0 v U'.heap L ∧ FrameEnd U o U' L ({ frames := 0, cells := 0, slots := 0, locals := 0 } : Room).cells ({ frames := 0, cells := 0, slots := 0, locals := 0 } : Room).slots) := by
  refine MetFree.of_bodySF (plainFor_of_name pn_1) hisR ?_
  intro p e s m args below meth c s₁ Bd hml0 hP hK
  obtain ⟨rfl, hZ, hh⟩ := hP
  have hx := Bd.exec
  have hby := Bd.bytes
  have hml : c.maxLocals = 1 := hml0
  have hown : s.vm.findClass "com/example/chop/chop/model/Relation" = some m.cls := findClass_of_methodNamed Bd.named
  have hnm := (name_of_methodNamed Bd.named Bd.method).1
  have X0 : Stand p l e ({ frames := 0, cells := 0, slots := 0, locals := 0 } : Room) s m #[(.ref u_EQUAL)] below meth c s₁ [] 0 0 := Stand.of_body Bd
  have e0 : s₁.heap = h0 := by rw [← hh, Bd.state]; rfl
  have N0 := Fr.nil n0
  have pre0 : ∀ t, Steps p.tables e below (s₁.setTop (mkF m 0 #[.val (.ref u_EQUAL)] [])) t → Steps p.tables e below (s₁.setTop (entryFrame m #[(.ref u_EQUAL)] 1)) t := fun t k => castTop (ef_2 m u_EQUAL) k
  obtain ⟨T1, X1, e1, st1⟩ := getS2 X0 hx hZ hown (host := "") (Or.inl (hw _ (List.mem_of_getElem? (i := 13) rfl))) Via.refl e0 S_EQUAL (g := (mkF m 1 #[.val (.ref u_EQUAL)] [(.ref u_EQUAL)])) rfl (hb hby d2_1)
  have k2 : ∀ t, Steps p.tables e below (T1.setTop (mkF m 19 #[.val (.ref u_EQUAL)] [(.int (0 : Int32))])) t → Steps p.tables e below (s₁.setTop (entryFrame m #[(.ref u_EQUAL)] 1)) t := by
    intro t k
    refine pre0 t ?_
    show Steps p.tables e below (s₁.setTop (mkF m 0 #[.val (.ref u_EQUAL)] [])) _
    refine XS.aloadN X0.here hx rfl (hb hby d2_0) rfl rfl ?_
    show Steps p.tables e below (s₁.setTop (mkF m 1 #[.val (.ref u_EQUAL)] [(.ref u_EQUAL)])) _
    refine st1 _ ?_
    show Steps p.tables e below (T1.setTop (mkF m 4 #[.val (.ref u_EQUAL)] [(.ref u_EQUAL), (.ref u_EQUAL)])) _
    refine Jvm.RoadKit.acmp (g := (mkF m 4 #[.val (.ref u_EQUAL)] [(.ref u_EQUAL), (.ref u_EQUAL)])) X1 hx rfl rfl rfl (pc0 := 4) (pc' := 18) (same := true) rfl (hb hby d2_4) rfl (decide_eq_true rfl) (by decide) (by decide) ?_
    show Steps p.tables e below (T1.setTop (mkF m 18 #[.val (.ref u_EQUAL)] [])) _
    refine XS.iconst X1.here hx rfl (hb hby d2_18) ?_
    exact k
  obtain ⟨fs, hr, hrun, hended, hW, hsame⟩ := X1.leave (v := some (.int (0 : Int32))) (fun h => by rw [Bd.returns] at h; cases h)
  refine ⟨_, _, k2 _ ?_, hrun, hended, _, _, rfl, ?_, ⟨_, rfl⟩, hW, hsame.mono (by decide) (by decide)⟩
  · exact retN X1 hx (t := .boolean) Bd.returns (by simp) (hb hby d2_19) hr
  · show Q2 Z u_EQUAL h0 n0 _ T1.heap _
    rw [e1]
    exact ⟨rfl, N0, rfl⟩
theorem pn_2 : plainName "com/example/chop/chop/model/RelationIsBoundPinLaw" = true := by first | (simp [plainName, overriddenIn]; done) | decide +kernel
theorem d3_0 : decode method_2_code 0 = .ok (.iload_n 0, 1) := by decide +kernel
theorem d3_1 : decode method_2_code 1 = .ok (.ifCond .ne 7, 3) := by decide +kernel
theorem d3_4 : decode method_2_code 4 = .ok (.getstatic 7, 3) := by decide +kernel
theorem d3_7 : decode method_2_code 7 = .ok (.areturn, 1) := by decide +kernel
theorem ef_3 (m : MethodId)  : entryFrame m #[(.int (0 : Int32))] 1 = mkF m 0 #[.val (.int (0 : Int32))] [] := by first | (simp [entryFrame, mkF, argsToLocals, Value.category]; done) | rfl
def Q3 (Z : State) (u_EQUAL : Addr) (h0 : Heap) (n0 : Nat) (v : Option Value) (h : Heap) (L : List Loc) : Prop := v = some (.ref u_EQUAL) ∧ Fr n0 L ∧ h = h0
set_option maxRecDepth 65536 in
set_option maxHeartbeats 40000000 in
theorem rm3 (l : Launch) (Z : State) (a0 : Array Value) (hw : ∀ d ∈ tables_1, d.before a0 Z = true) (ws : List Jvm.Cond) (u_EQUAL : Addr) (h0 : Heap) (n0 : Nat) (Z0 : n0 ≤ h0.size) (S_EQUAL : Sta Z h0 "com/example/chop/chop/model/Relation" "EQUAL" "Lcom/example/chop/chop/model/Relation;" (.ref u_EQUAL)) :
    MetFree l (⟨"com/example/chop/chop/model/RelationIsBoundPinLaw", "pick", "(I)Lcom/example/chop/chop/model/Relation;"⟩ : MethodName) (head1 (Jvm.Cond.code (⟨"com/example/chop/chop/model/RelationIsBoundPinLaw", "pick", "(I)Lcom/example/chop/chop/model/Relation;"⟩ : MethodName) method_2_code 1 (some (.object "com/example/chop/chop/model/Relation")) :: ws) ({ frames := 0, cells := 0, slots := 0, locals := 0 } : Room)) (fun a U => a = #[(.int (0 : Int32))] ∧ Z.Warmed39 U.vm ∧ U.heap = h0) (fun _ _ _ _ _ => True) (fun _ U o U' => ∃ v L, o = .returned v ∧ Q3 Z u_EQUAL h0 n0 v U'.heap L ∧ FrameEnd U o U' L ({ frames := 0, cells := 0, slots := 0, locals := 0 } : Room).cells ({ frames := 0, cells := 0, slots := 0, locals := 0 } : Room).slots) := by
  refine MetFree.of_bodySF (plainFor_of_name pn_2) hisR ?_
  intro p e s m args below meth c s₁ Bd hml0 hP hK
  obtain ⟨rfl, hZ, hh⟩ := hP
  have hx := Bd.exec
  have hby := Bd.bytes
  have hml : c.maxLocals = 1 := hml0
  have hown : s.vm.findClass "com/example/chop/chop/model/RelationIsBoundPinLaw" = some m.cls := findClass_of_methodNamed Bd.named
  have hnm := (name_of_methodNamed Bd.named Bd.method).1
  have X0 : Stand p l e ({ frames := 0, cells := 0, slots := 0, locals := 0 } : Room) s m #[(.int (0 : Int32))] below meth c s₁ [] 0 0 := Stand.of_body Bd
  have e0 : s₁.heap = h0 := by rw [← hh, Bd.state]; rfl
  have N0 := Fr.nil n0
  have pre0 : ∀ t, Steps p.tables e below (s₁.setTop (mkF m 0 #[.val (.int (0 : Int32))] [])) t → Steps p.tables e below (s₁.setTop (entryFrame m #[(.int (0 : Int32))] 1)) t := fun t k => castTop (ef_3 m ) k
  obtain ⟨T1, X1, e1, st1⟩ := getS2 X0 hx hZ hown (host := "") (Or.inl (hw _ (List.mem_of_getElem? (i := 5) rfl))) Via.refl e0 S_EQUAL (g := (mkF m 4 #[.val (.int (0 : Int32))] [])) rfl (hb hby d3_4)
  have k2 : ∀ t, Steps p.tables e below (T1.setTop (mkF m 7 #[.val (.int (0 : Int32))] [(.ref u_EQUAL)])) t → Steps p.tables e below (s₁.setTop (entryFrame m #[(.int (0 : Int32))] 1)) t := by
    intro t k
    refine pre0 t ?_
    show Steps p.tables e below (s₁.setTop (mkF m 0 #[.val (.int (0 : Int32))] [])) _
    refine XS.iloadN X0.here hx rfl (hb hby d3_0) rfl ?_
    show Steps p.tables e below (s₁.setTop (mkF m 1 #[.val (.int (0 : Int32))] [(.int (0 : Int32))])) _
    refine XS.ifNo X0.here hx rfl (hb hby d3_1) rfl ((if0 _ _).trans (teq (by decide : (0 : Int32) = (0 : Int32))).2) ?_
    show Steps p.tables e below (s₁.setTop (mkF m 4 #[.val (.int (0 : Int32))] [])) _
    refine st1 _ ?_
    exact k
  obtain ⟨fs, hr, hrun, hended, hW, hsame⟩ := X1.leave (v := some (.ref u_EQUAL)) (fun h => by rw [Bd.returns] at h; cases h)
  refine ⟨_, _, k2 _ ?_, hrun, hended, _, _, rfl, ?_, ⟨_, rfl⟩, hW, hsame.mono (by decide) (by decide)⟩
  · exact retOut X1 hx Bd.returns rfl (Or.inr (Or.inr (Or.inr (Or.inr ⟨rfl, rfl, rfl⟩)))) (hb hby d3_7) hr
  · show Q3 Z u_EQUAL h0 n0 _ T1.heap _
    rw [e1]
    exact ⟨rfl, N0, rfl⟩
theorem pd_0 : parseMethodDescriptor "()I" = some ⟨[], some .int⟩ := by decide +kernel
theorem d4_0 : decode prog_4_method_10_code 0 = .ok (.aload_n 0, 1) := by decide +kernel
theorem d4_1 : decode prog_4_method_10_code 1 = .ok (.invokevirtual 48, 3) := by decide +kernel
theorem d4_4 : decode prog_4_method_10_code 4 = .ok (.tableswitch 40 0 5 #[50, 62, 74, 86, 98, 110], 40) := by decide +kernel
theorem d4_54 : decode prog_4_method_10_code 54 = .ok (.iload_n 1, 1) := by decide +kernel
theorem d4_55 : decode prog_4_method_10_code 55 = .ok (.ifCond .ne 7, 3) := by decide +kernel
theorem d4_62 : decode prog_4_method_10_code 62 = .ok (.iconst 0, 1) := by decide +kernel
theorem d4_63 : decode prog_4_method_10_code 63 = .ok (.goto 60, 3) := by decide +kernel
theorem d4_123 : decode prog_4_method_10_code 123 = .ok (.ireturn, 1) := by decide +kernel
theorem ef_4 (m : MethodId) (u_EQUAL : Addr) : entryFrame m #[(.ref u_EQUAL), (.int (-1 : Int32))] 2 = mkF m 0 #[.val (.ref u_EQUAL), .val (.int (-1 : Int32))] [] := by first | (simp [entryFrame, mkF, argsToLocals, Value.category]; done) | rfl
def Q4 (Z : State) (u_EQUAL : Addr) (h0 : Heap) (n0 : Nat) (v : Option Value) (h : Heap) (L : List Loc) : Prop := v = some (.int (0 : Int32)) ∧ Fr n0 L ∧ h = h0
set_option maxRecDepth 65536 in
set_option maxHeartbeats 40000000 in
theorem rm4 (l : Launch) (Z : State) (a0 : Array Value) (hw : ∀ d ∈ tables_1, d.before a0 Z = true) (ws : List Jvm.Cond) (u_EQUAL : Addr) (h0 : Heap) (n0 : Nat) (Z0 : n0 ≤ h0.size) (Ex : Exa Z h0 u_EQUAL "com/example/chop/chop/model/Relation") (Fo : Fld Z h0 u_EQUAL "java/lang/Enum" "ordinal" "I" (.int (0 : Int32))) :
    MetFree l (⟨"com/example/chop/chop/model/Relation", "holds", "(I)Z"⟩ : MethodName) (head1 (Jvm.Cond.code (⟨"com/example/chop/chop/model/Relation", "holds", "(I)Z"⟩ : MethodName) prog_4_method_10_code 2 (some .boolean) :: ws) ({ frames := 1, cells := 0, slots := 0, locals := 12 } : Room)) (fun a U => a = #[(.ref u_EQUAL), (.int (-1 : Int32))] ∧ Z.Warmed39 U.vm ∧ U.heap = h0) (fun _ _ _ _ _ => True) (fun _ U o U' => ∃ v L, o = .returned v ∧ Q4 Z u_EQUAL h0 n0 v U'.heap L ∧ FrameEnd U o U' L ({ frames := 1, cells := 0, slots := 0, locals := 12 } : Room).cells ({ frames := 1, cells := 0, slots := 0, locals := 12 } : Room).slots) := by
  refine MetFree.of_bodySF (plainFor_of_name pn_1) hisR ?_
  intro p e s m args below meth c s₁ Bd hml0 hP hK
  obtain ⟨rfl, hZ, hh⟩ := hP
  have hx := Bd.exec
  have hby := Bd.bytes
  have hml : c.maxLocals = 2 := hml0
  have hown : s.vm.findClass "com/example/chop/chop/model/Relation" = some m.cls := findClass_of_methodNamed Bd.named
  have hnm := (name_of_methodNamed Bd.named Bd.method).1
  have X0 : Stand p l e ({ frames := 1, cells := 0, slots := 0, locals := 12 } : Room) s m #[(.ref u_EQUAL), (.int (-1 : Int32))] below meth c s₁ [] 0 0 := Stand.of_body Bd
  have e0 : s₁.heap = h0 := by rw [← hh, Bd.state]; rfl
  have N0 := Fr.nil n0
  have pre0 : ∀ t, Steps p.tables e below (s₁.setTop (mkF m 0 #[.val (.ref u_EQUAL), .val (.int (-1 : Int32))] [])) t → Steps p.tables e below (s₁.setTop (entryFrame m #[(.ref u_EQUAL), (.int (-1 : Int32))] 2)) t := fun t k => castTop (ef_4 m u_EQUAL) k
  obtain ⟨cq1, kq1, q1a, q1b, q1c⟩ := isOf hZ e0 Ex
  obtain ⟨_, _, ⟨T1, L1, k1, n1⟩, -, X1, ⟨Lc1, hQ1, l1, y1, z1⟩, st1⟩ := X0.virtualBackUp hx (x := (⟨"com/example/chop/chop/model/Relation", "ordinal", "()I"⟩ : MethodName)) (y := (⟨"java/lang/Enum", "ordinal", "()I"⟩ : MethodName)) (owner := "java/lang/Enum") hown (mvT hZ (hw _ (List.mem_of_getElem? (i := 19) rfl))) (mvT hZ (hw _ (List.mem_of_getElem? (i := 20) rfl))) (mvT hZ (hw _ (List.mem_of_getElem? (i := 21) rfl))) (by decide) (mvT hZ (hw _ (List.mem_of_getElem? (i := 23) rfl))) (mvT hZ (hw _ (List.mem_of_getElem? (i := 22) rfl))) (backOf (W := 0) (rm1 l Z a0 hw [] u_EQUAL h0 n0 Z0 Fo) hZ (hw _ (List.mem_of_getElem? (i := 25) rfl)) (hw _ (List.mem_of_getElem? (i := 24) rfl)) (by decide) (by decide)) q1a q1c (g := (mkF m 1 #[.val (.ref u_EQUAL), .val (.int (-1 : Int32))] [(.ref u_EQUAL)])) rfl (by rw [hml]; rfl) (Steps.refl _) (argsL := []) (rest := []) (lenOf pd_0 rfl) rfl (by show 2 * 0 + _ ≤ _; exact Nat.le_of_eq rfl) (hb hby d4_1) (fun _ _ => ⟨rfl, e0, (by decide : 0 + 0 ≤ _), (by decide : 0 + 0 ≤ _)⟩)
  dsimp only [Pt.U, Pt.locs, Pt.cells, Pt.slots] at X1 l1 y1 z1 st1 hQ1
  subst l1 y1 z1
  obtain ⟨rfl, N1q, eh1⟩ := hQ1
  have N1 := Fr.app N0 N1q
  have k2 : ∀ t, Steps p.tables e below (T1.setTop (mkF m 123 #[.val (.ref u_EQUAL), .val (.int (-1 : Int32))] [(.int (0 : Int32))])) t → Steps p.tables e below (s₁.setTop (entryFrame m #[(.ref u_EQUAL), (.int (-1 : Int32))] 2)) t := by
    intro t k
    refine pre0 t ?_
    show Steps p.tables e below (s₁.setTop (mkF m 0 #[.val (.ref u_EQUAL), .val (.int (-1 : Int32))] [])) _
    refine XS.aloadN X0.here hx rfl (hb hby d4_0) rfl rfl ?_
    show Steps p.tables e below (s₁.setTop (mkF m 1 #[.val (.ref u_EQUAL), .val (.int (-1 : Int32))] [(.ref u_EQUAL)])) _
    refine st1.trans ?_
    show Steps p.tables e below (T1.setTop (mkF m 4 #[.val (.ref u_EQUAL), .val (.int (-1 : Int32))] [(.int (0 : Int32))])) _
    refine XS.tswIn X1.here hx rfl (pc0 := 4) (pc' := 54) rfl (hb hby d4_4) rfl (by decide) rfl (by decide) (by decide) ?_
    show Steps p.tables e below (T1.setTop (mkF m 54 #[.val (.ref u_EQUAL), .val (.int (-1 : Int32))] [])) _
    refine XS.iloadN X1.here hx rfl (hb hby d4_54) rfl ?_
    show Steps p.tables e below (T1.setTop (mkF m 55 #[.val (.ref u_EQUAL), .val (.int (-1 : Int32))] [(.int (-1 : Int32))])) _
    refine XS.ifYes X1.here hx rfl (pc0 := 55) (pc' := 62) rfl (hb hby d4_55) rfl ((if0 _ _).trans (feq (by decide : ¬ ((-1 : Int32) = (0 : Int32)))).2) (by decide) (by decide) ?_
    show Steps p.tables e below (T1.setTop (mkF m 62 #[.val (.ref u_EQUAL), .val (.int (-1 : Int32))] [])) _
    refine XS.iconst X1.here hx rfl (hb hby d4_62) ?_
    show Steps p.tables e below (T1.setTop (mkF m 63 #[.val (.ref u_EQUAL), .val (.int (-1 : Int32))] [(.int (0 : Int32))])) _
    refine XS.goto X1.here hx rfl (pc0 := 63) (pc' := 123) rfl (hb hby d4_63) (by decide) (by decide) ?_
    exact k
  obtain ⟨fs, hr, hrun, hended, hW, hsame⟩ := X1.leave (v := some (.int (0 : Int32))) (fun h => by rw [Bd.returns] at h; cases h)
  refine ⟨_, _, k2 _ ?_, hrun, hended, _, _, rfl, ?_, ⟨_, rfl⟩, hW, hsame.mono (by decide) (by decide)⟩
  · exact retN X1 hx (t := .boolean) Bd.returns (by simp) (hb hby d4_123) hr
  · show Q4 Z u_EQUAL h0 n0 _ T1.heap _
    rw [eh1]
    exact ⟨rfl, N1, rfl⟩
theorem d5_0 : decode prog_4_method_10_code 0 = .ok (.aload_n 0, 1) := by decide +kernel
theorem d5_1 : decode prog_4_method_10_code 1 = .ok (.invokevirtual 48, 3) := by decide +kernel
theorem d5_4 : decode prog_4_method_10_code 4 = .ok (.tableswitch 40 0 5 #[50, 62, 74, 86, 98, 110], 40) := by decide +kernel
theorem d5_54 : decode prog_4_method_10_code 54 = .ok (.iload_n 1, 1) := by decide +kernel
theorem d5_55 : decode prog_4_method_10_code 55 = .ok (.ifCond .ne 7, 3) := by decide +kernel
theorem d5_62 : decode prog_4_method_10_code 62 = .ok (.iconst 0, 1) := by decide +kernel
theorem d5_63 : decode prog_4_method_10_code 63 = .ok (.goto 60, 3) := by decide +kernel
theorem d5_123 : decode prog_4_method_10_code 123 = .ok (.ireturn, 1) := by decide +kernel
theorem ef_5 (m : MethodId) (u_EQUAL : Addr) : entryFrame m #[(.ref u_EQUAL), (.int (1 : Int32))] 2 = mkF m 0 #[.val (.ref u_EQUAL), .val (.int (1 : Int32))] [] := by first | (simp [entryFrame, mkF, argsToLocals, Value.category]; done) | rfl
def Q5 (Z : State) (u_EQUAL : Addr) (h0 : Heap) (n0 : Nat) (v : Option Value) (h : Heap) (L : List Loc) : Prop := v = some (.int (0 : Int32)) ∧ Fr n0 L ∧ h = h0
set_option maxRecDepth 65536 in
set_option maxHeartbeats 40000000 in
theorem rm5 (l : Launch) (Z : State) (a0 : Array Value) (hw : ∀ d ∈ tables_1, d.before a0 Z = true) (ws : List Jvm.Cond) (u_EQUAL : Addr) (h0 : Heap) (n0 : Nat) (Z0 : n0 ≤ h0.size) (Ex : Exa Z h0 u_EQUAL "com/example/chop/chop/model/Relation") (Fo : Fld Z h0 u_EQUAL "java/lang/Enum" "ordinal" "I" (.int (0 : Int32))) :
    MetFree l (⟨"com/example/chop/chop/model/Relation", "holds", "(I)Z"⟩ : MethodName) (head1 (Jvm.Cond.code (⟨"com/example/chop/chop/model/Relation", "holds", "(I)Z"⟩ : MethodName) prog_4_method_10_code 2 (some .boolean) :: ws) ({ frames := 1, cells := 0, slots := 0, locals := 12 } : Room)) (fun a U => a = #[(.ref u_EQUAL), (.int (1 : Int32))] ∧ Z.Warmed39 U.vm ∧ U.heap = h0) (fun _ _ _ _ _ => True) (fun _ U o U' => ∃ v L, o = .returned v ∧ Q5 Z u_EQUAL h0 n0 v U'.heap L ∧ FrameEnd U o U' L ({ frames := 1, cells := 0, slots := 0, locals := 12 } : Room).cells ({ frames := 1, cells := 0, slots := 0, locals := 12 } : Room).slots) := by
  refine MetFree.of_bodySF (plainFor_of_name pn_1) hisR ?_
  intro p e s m args below meth c s₁ Bd hml0 hP hK
  obtain ⟨rfl, hZ, hh⟩ := hP
  have hx := Bd.exec
  have hby := Bd.bytes
  have hml : c.maxLocals = 2 := hml0
  have hown : s.vm.findClass "com/example/chop/chop/model/Relation" = some m.cls := findClass_of_methodNamed Bd.named
  have hnm := (name_of_methodNamed Bd.named Bd.method).1
  have X0 : Stand p l e ({ frames := 1, cells := 0, slots := 0, locals := 12 } : Room) s m #[(.ref u_EQUAL), (.int (1 : Int32))] below meth c s₁ [] 0 0 := Stand.of_body Bd
  have e0 : s₁.heap = h0 := by rw [← hh, Bd.state]; rfl
  have N0 := Fr.nil n0
  have pre0 : ∀ t, Steps p.tables e below (s₁.setTop (mkF m 0 #[.val (.ref u_EQUAL), .val (.int (1 : Int32))] [])) t → Steps p.tables e below (s₁.setTop (entryFrame m #[(.ref u_EQUAL), (.int (1 : Int32))] 2)) t := fun t k => castTop (ef_5 m u_EQUAL) k
  obtain ⟨cq1, kq1, q1a, q1b, q1c⟩ := isOf hZ e0 Ex
  obtain ⟨_, _, ⟨T1, L1, k1, n1⟩, -, X1, ⟨Lc1, hQ1, l1, y1, z1⟩, st1⟩ := X0.virtualBackUp hx (x := (⟨"com/example/chop/chop/model/Relation", "ordinal", "()I"⟩ : MethodName)) (y := (⟨"java/lang/Enum", "ordinal", "()I"⟩ : MethodName)) (owner := "java/lang/Enum") hown (mvT hZ (hw _ (List.mem_of_getElem? (i := 19) rfl))) (mvT hZ (hw _ (List.mem_of_getElem? (i := 20) rfl))) (mvT hZ (hw _ (List.mem_of_getElem? (i := 21) rfl))) (by decide) (mvT hZ (hw _ (List.mem_of_getElem? (i := 23) rfl))) (mvT hZ (hw _ (List.mem_of_getElem? (i := 22) rfl))) (backOf (W := 0) (rm1 l Z a0 hw [] u_EQUAL h0 n0 Z0 Fo) hZ (hw _ (List.mem_of_getElem? (i := 25) rfl)) (hw _ (List.mem_of_getElem? (i := 24) rfl)) (by decide) (by decide)) q1a q1c (g := (mkF m 1 #[.val (.ref u_EQUAL), .val (.int (1 : Int32))] [(.ref u_EQUAL)])) rfl (by rw [hml]; rfl) (Steps.refl _) (argsL := []) (rest := []) (lenOf pd_0 rfl) rfl (by show 2 * 0 + _ ≤ _; exact Nat.le_of_eq rfl) (hb hby d5_1) (fun _ _ => ⟨rfl, e0, (by decide : 0 + 0 ≤ _), (by decide : 0 + 0 ≤ _)⟩)
  dsimp only [Pt.U, Pt.locs, Pt.cells, Pt.slots] at X1 l1 y1 z1 st1 hQ1
  subst l1 y1 z1
  obtain ⟨rfl, N1q, eh1⟩ := hQ1
  have N1 := Fr.app N0 N1q
  have k2 : ∀ t, Steps p.tables e below (T1.setTop (mkF m 123 #[.val (.ref u_EQUAL), .val (.int (1 : Int32))] [(.int (0 : Int32))])) t → Steps p.tables e below (s₁.setTop (entryFrame m #[(.ref u_EQUAL), (.int (1 : Int32))] 2)) t := by
    intro t k
    refine pre0 t ?_
    show Steps p.tables e below (s₁.setTop (mkF m 0 #[.val (.ref u_EQUAL), .val (.int (1 : Int32))] [])) _
    refine XS.aloadN X0.here hx rfl (hb hby d5_0) rfl rfl ?_
    show Steps p.tables e below (s₁.setTop (mkF m 1 #[.val (.ref u_EQUAL), .val (.int (1 : Int32))] [(.ref u_EQUAL)])) _
    refine st1.trans ?_
    show Steps p.tables e below (T1.setTop (mkF m 4 #[.val (.ref u_EQUAL), .val (.int (1 : Int32))] [(.int (0 : Int32))])) _
    refine XS.tswIn X1.here hx rfl (pc0 := 4) (pc' := 54) rfl (hb hby d5_4) rfl (by decide) rfl (by decide) (by decide) ?_
    show Steps p.tables e below (T1.setTop (mkF m 54 #[.val (.ref u_EQUAL), .val (.int (1 : Int32))] [])) _
    refine XS.iloadN X1.here hx rfl (hb hby d5_54) rfl ?_
    show Steps p.tables e below (T1.setTop (mkF m 55 #[.val (.ref u_EQUAL), .val (.int (1 : Int32))] [(.int (1 : Int32))])) _
    refine XS.ifYes X1.here hx rfl (pc0 := 55) (pc' := 62) rfl (hb hby d5_55) rfl ((if0 _ _).trans (feq (by decide : ¬ ((1 : Int32) = (0 : Int32)))).2) (by decide) (by decide) ?_
    show Steps p.tables e below (T1.setTop (mkF m 62 #[.val (.ref u_EQUAL), .val (.int (1 : Int32))] [])) _
    refine XS.iconst X1.here hx rfl (hb hby d5_62) ?_
    show Steps p.tables e below (T1.setTop (mkF m 63 #[.val (.ref u_EQUAL), .val (.int (1 : Int32))] [(.int (0 : Int32))])) _
    refine XS.goto X1.here hx rfl (pc0 := 63) (pc' := 123) rfl (hb hby d5_63) (by decide) (by decide) ?_
    exact k
  obtain ⟨fs, hr, hrun, hended, hW, hsame⟩ := X1.leave (v := some (.int (0 : Int32))) (fun h => by rw [Bd.returns] at h; cases h)
  refine ⟨_, _, k2 _ ?_, hrun, hended, _, _, rfl, ?_, ⟨_, rfl⟩, hW, hsame.mono (by decide) (by decide)⟩
  · exact retN X1 hx (t := .boolean) Bd.returns (by simp) (hb hby d5_123) hr
  · show Q5 Z u_EQUAL h0 n0 _ T1.heap _
    rw [eh1]
    exact ⟨rfl, N1, rfl⟩
theorem d6_0 : decode jdk_37_method_2_code 0 = .ok (.aload_n 0, 1) := by decide +kernel
theorem d6_1 : decode jdk_37_method_2_code 1 = .ok (.getfield 7, 3) := by decide +kernel
theorem d6_4 : decode jdk_37_method_2_code 4 = .ok (.ireturn, 1) := by decide +kernel
theorem ef_6 (m : MethodId) (a6_0 : Addr) : entryFrame m #[(.ref a6_0)] 1 = mkF m 0 #[.val (.ref a6_0)] [] := by first | (simp [entryFrame, mkF, argsToLocals, Value.category]; done) | rfl
def Q6 (Z : State) (a6_0 : Addr) (h0 : Heap) (n0 : Nat) (v : Option Value) (h : Heap) (L : List Loc) : Prop := v = some (.int (1 : Int32)) ∧ Fr n0 L ∧ h = h0
set_option maxRecDepth 65536 in
set_option maxHeartbeats 40000000 in
theorem rm6 (l : Launch) (Z : State) (a0 : Array Value) (hw : ∀ d ∈ tables_1, d.before a0 Z = true) (ws : List Jvm.Cond) (a6_0 : Addr) (h0 : Heap) (n0 : Nat) (Z0 : n0 ≤ h0.size) (Fo : Fld Z h0 a6_0 "java/lang/Enum" "ordinal" "I" (.int (1 : Int32))) :
    MetFree l (⟨"java/lang/Enum", "ordinal", "()I"⟩ : MethodName) (head1 (Jvm.Cond.code (⟨"java/lang/Enum", "ordinal", "()I"⟩ : MethodName) jdk_37_method_2_code 1 (some .int) :: ws) ({ frames := 0, cells := 0, slots := 0, locals := 0 } : Room)) (fun a U => a = #[(.ref a6_0)] ∧ Z.Warmed39 U.vm ∧ U.heap = h0) (fun _ _ _ _ _ => True) (fun _ U o U' => ∃ v L, o = .returned v ∧ Q6 Z a6_0 h0 n0 v U'.heap L ∧ FrameEnd U o U' L ({ frames := 0, cells := 0, slots := 0, locals := 0 } : Room).cells ({ frames := 0, cells := 0, slots := 0, locals := 0 } : Room).slots) := by
  refine MetFree.of_bodySF (plainFor_of_name pn_0) hisR ?_
  intro p e s m args below meth c s₁ Bd hml0 hP hK
  obtain ⟨rfl, hZ, hh⟩ := hP
  have hx := Bd.exec
  have hby := Bd.bytes
  have hml : c.maxLocals = 1 := hml0
  have hown : s.vm.findClass "java/lang/Enum" = some m.cls := findClass_of_methodNamed Bd.named
  have hnm := (name_of_methodNamed Bd.named Bd.method).1
  have X0 : Stand p l e ({ frames := 0, cells := 0, slots := 0, locals := 0 } : Room) s m #[(.ref a6_0)] below meth c s₁ [] 0 0 := Stand.of_body Bd
  have e0 : s₁.heap = h0 := by rw [← hh, Bd.state]; rfl
  have N0 := Fr.nil n0
  have pre0 : ∀ t, Steps p.tables e below (s₁.setTop (mkF m 0 #[.val (.ref a6_0)] [])) t → Steps p.tables e below (s₁.setTop (entryFrame m #[(.ref a6_0)] 1)) t := fun t k => castTop (ef_6 m a6_0) k
  obtain ⟨T1, X1, e1, st1⟩ := getF X0 hx hZ hown (host := "") (Or.inl (hw _ (List.mem_of_getElem? (i := 26) rfl))) Via.refl e0 Fo (g := (mkF m 1 #[.val (.ref a6_0)] [(.ref a6_0)])) rfl rfl (hb hby d6_1)
  have k2 : ∀ t, Steps p.tables e below (T1.setTop (mkF m 4 #[.val (.ref a6_0)] [(.int (1 : Int32))])) t → Steps p.tables e below (s₁.setTop (entryFrame m #[(.ref a6_0)] 1)) t := by
    intro t k
    refine pre0 t ?_
    show Steps p.tables e below (s₁.setTop (mkF m 0 #[.val (.ref a6_0)] [])) _
    refine XS.aloadN X0.here hx rfl (hb hby d6_0) rfl rfl ?_
    show Steps p.tables e below (s₁.setTop (mkF m 1 #[.val (.ref a6_0)] [(.ref a6_0)])) _
    refine st1 _ ?_
    exact k
  obtain ⟨fs, hr, hrun, hended, hW, hsame⟩ := X1.leave (v := some (.int (1 : Int32))) (fun h => by rw [Bd.returns] at h; cases h)
  refine ⟨_, _, k2 _ ?_, hrun, hended, _, _, rfl, ?_, ⟨_, rfl⟩, hW, hsame.mono (by decide) (by decide)⟩
  · exact retI X1 hx Bd.returns (hb hby d6_4) hr
  · show Q6 Z a6_0 h0 n0 _ T1.heap _
    rw [e1]
    exact ⟨rfl, N0, rfl⟩
theorem d7_0 : decode prog_4_method_6_code 0 = .ok (.aload_n 0, 1) := by decide +kernel
theorem d7_1 : decode prog_4_method_6_code 1 = .ok (.getstatic 3, 3) := by decide +kernel
theorem d7_4 : decode prog_4_method_6_code 4 = .ok (.if_acmp .eq 14, 3) := by decide +kernel
theorem d7_7 : decode prog_4_method_6_code 7 = .ok (.aload_n 0, 1) := by decide +kernel
theorem d7_8 : decode prog_4_method_6_code 8 = .ok (.getstatic 7, 3) := by decide +kernel
theorem d7_11 : decode prog_4_method_6_code 11 = .ok (.if_acmp .eq 7, 3) := by decide +kernel
theorem d7_18 : decode prog_4_method_6_code 18 = .ok (.iconst 0, 1) := by decide +kernel
theorem d7_19 : decode prog_4_method_6_code 19 = .ok (.ireturn, 1) := by decide +kernel
theorem ef_7 (m : MethodId) (u_NOT_EQUAL : Addr) : entryFrame m #[(.ref u_NOT_EQUAL)] 1 = mkF m 0 #[.val (.ref u_NOT_EQUAL)] [] := by first | (simp [entryFrame, mkF, argsToLocals, Value.category]; done) | rfl
def Q7 (Z : State) (u_NOT_EQUAL : Addr) (u_EQUAL : Addr) (h0 : Heap) (n0 : Nat) (v : Option Value) (h : Heap) (L : List Loc) : Prop := v = some (.int (0 : Int32)) ∧ Fr n0 L ∧ h = h0
set_option maxRecDepth 65536 in
set_option maxHeartbeats 40000000 in
theorem rm7 (l : Launch) (Z : State) (a0 : Array Value) (hw : ∀ d ∈ tables_1, d.before a0 Z = true) (ws : List Jvm.Cond) (u_NOT_EQUAL : Addr) (u_EQUAL : Addr) (h0 : Heap) (n0 : Nat) (Z0 : n0 ≤ h0.size) (S_EQUAL : Sta Z h0 "com/example/chop/chop/model/Relation" "EQUAL" "Lcom/example/chop/chop/model/Relation;" (.ref u_EQUAL)) (S_NOT_EQUAL : Sta Z h0 "com/example/chop/chop/model/Relation" "NOT_EQUAL" "Lcom/example/chop/chop/model/Relation;" (.ref u_NOT_EQUAL)) (hne_EQUAL : u_NOT_EQUAL ≠ u_EQUAL) :
    MetFree l (⟨"com/example/chop/chop/model/Relation", "isBound", "()Z"⟩ : MethodName) (head1 (Jvm.Cond.code (⟨"com/example/chop/chop/model/Relation", "isBound", "()Z"⟩ : MethodName) prog_4_method_6_code 1 (some .boolean) :: ws) ({ frames := 0, cells := 0, slots := 0, locals := 0 } : Room)) (fun a U => a = #[(.ref u_NOT_EQUAL)] ∧ Z.Warmed39 U.vm ∧ U.heap = h0) (fun _ _ _ _ _ => True) (fun _ U o U' => ∃ v L, o = .returned v ∧ Q7 Z u_NOT_EQUAL u_EQUAL h0 n0 v U'.heap L ∧ FrameEnd U o U' L ({ frames := 0, cells := 0, slots := 0, locals := 0 } : Room).cells ({ frames := 0, cells := 0, slots := 0, locals := 0 } : Room).slots) := by
  refine MetFree.of_bodySF (plainFor_of_name pn_1) hisR ?_
  intro p e s m args below meth c s₁ Bd hml0 hP hK
  obtain ⟨rfl, hZ, hh⟩ := hP
  have hx := Bd.exec
  have hby := Bd.bytes
  have hml : c.maxLocals = 1 := hml0
  have hown : s.vm.findClass "com/example/chop/chop/model/Relation" = some m.cls := findClass_of_methodNamed Bd.named
  have hnm := (name_of_methodNamed Bd.named Bd.method).1
  have X0 : Stand p l e ({ frames := 0, cells := 0, slots := 0, locals := 0 } : Room) s m #[(.ref u_NOT_EQUAL)] below meth c s₁ [] 0 0 := Stand.of_body Bd
  have e0 : s₁.heap = h0 := by rw [← hh, Bd.state]; rfl
  have N0 := Fr.nil n0
  have pre0 : ∀ t, Steps p.tables e below (s₁.setTop (mkF m 0 #[.val (.ref u_NOT_EQUAL)] [])) t → Steps p.tables e below (s₁.setTop (entryFrame m #[(.ref u_NOT_EQUAL)] 1)) t := fun t k => castTop (ef_7 m u_NOT_EQUAL) k
  obtain ⟨T1, X1, e1, st1⟩ := getS2 X0 hx hZ hown (host := "") (Or.inl (hw _ (List.mem_of_getElem? (i := 13) rfl))) Via.refl e0 S_EQUAL (g := (mkF m 1 #[.val (.ref u_NOT_EQUAL)] [(.ref u_NOT_EQUAL)])) rfl (hb hby d7_1)
  obtain ⟨T2, X2, e2, st2⟩ := getS2 X1 hx hZ hown (host := "") (Or.inl (hw _ (List.mem_of_getElem? (i := 30) rfl))) Via.refl e1 S_NOT_EQUAL (g := (mkF m 8 #[.val (.ref u_NOT_EQUAL)] [(.ref u_NOT_EQUAL)])) rfl (hb hby d7_8)
  have k3 : ∀ t, Steps p.tables e below (T2.setTop (mkF m 19 #[.val (.ref u_NOT_EQUAL)] [(.int (0 : Int32))])) t → Steps p.tables e below (s₁.setTop (entryFrame m #[(.ref u_NOT_EQUAL)] 1)) t := by
    intro t k
    refine pre0 t ?_
    show Steps p.tables e below (s₁.setTop (mkF m 0 #[.val (.ref u_NOT_EQUAL)] [])) _
    refine XS.aloadN X0.here hx rfl (hb hby d7_0) rfl rfl ?_
    show Steps p.tables e below (s₁.setTop (mkF m 1 #[.val (.ref u_NOT_EQUAL)] [(.ref u_NOT_EQUAL)])) _
    refine st1 _ ?_
    show Steps p.tables e below (T1.setTop (mkF m 4 #[.val (.ref u_NOT_EQUAL)] [(.ref u_EQUAL), (.ref u_NOT_EQUAL)])) _
    refine Jvm.RoadKit.acmp (g := (mkF m 4 #[.val (.ref u_NOT_EQUAL)] [(.ref u_EQUAL), (.ref u_NOT_EQUAL)])) X1 hx rfl rfl rfl (pc0 := 4) (pc' := 7) (same := false) rfl (hb hby d7_4) rfl (decide_eq_false fun q => hne_EQUAL (Value.ref.inj q)) (by decide) (by decide) ?_
    show Steps p.tables e below (T1.setTop (mkF m 7 #[.val (.ref u_NOT_EQUAL)] [])) _
    refine XS.aloadN X1.here hx rfl (hb hby d7_7) rfl rfl ?_
    show Steps p.tables e below (T1.setTop (mkF m 8 #[.val (.ref u_NOT_EQUAL)] [(.ref u_NOT_EQUAL)])) _
    refine st2 _ ?_
    show Steps p.tables e below (T2.setTop (mkF m 11 #[.val (.ref u_NOT_EQUAL)] [(.ref u_NOT_EQUAL), (.ref u_NOT_EQUAL)])) _
    refine Jvm.RoadKit.acmp (g := (mkF m 11 #[.val (.ref u_NOT_EQUAL)] [(.ref u_NOT_EQUAL), (.ref u_NOT_EQUAL)])) X2 hx rfl rfl rfl (pc0 := 11) (pc' := 18) (same := true) rfl (hb hby d7_11) rfl (decide_eq_true rfl) (by decide) (by decide) ?_
    show Steps p.tables e below (T2.setTop (mkF m 18 #[.val (.ref u_NOT_EQUAL)] [])) _
    refine XS.iconst X2.here hx rfl (hb hby d7_18) ?_
    exact k
  obtain ⟨fs, hr, hrun, hended, hW, hsame⟩ := X2.leave (v := some (.int (0 : Int32))) (fun h => by rw [Bd.returns] at h; cases h)
  refine ⟨_, _, k3 _ ?_, hrun, hended, _, _, rfl, ?_, ⟨_, rfl⟩, hW, hsame.mono (by decide) (by decide)⟩
  · exact retN X2 hx (t := .boolean) Bd.returns (by simp) (hb hby d7_19) hr
  · show Q7 Z u_NOT_EQUAL u_EQUAL h0 n0 _ T2.heap _
    rw [e2]
    exact ⟨rfl, N0, rfl⟩
theorem d8_0 : decode method_2_code 0 = .ok (.iload_n 0, 1) := by decide +kernel
theorem d8_1 : decode method_2_code 1 = .ok (.ifCond .ne 7, 3) := by decide +kernel
theorem d8_8 : decode method_2_code 8 = .ok (.iload_n 0, 1) := by decide +kernel
theorem d8_9 : decode method_2_code 9 = .ok (.iconst 1, 1) := by decide +kernel
theorem d8_10 : decode method_2_code 10 = .ok (.if_icmp .ne 7, 3) := by decide +kernel
theorem d8_13 : decode method_2_code 13 = .ok (.getstatic 13, 3) := by decide +kernel
theorem d8_16 : decode method_2_code 16 = .ok (.areturn, 1) := by decide +kernel
theorem ef_8 (m : MethodId)  : entryFrame m #[(.int (1 : Int32))] 1 = mkF m 0 #[.val (.int (1 : Int32))] [] := by first | (simp [entryFrame, mkF, argsToLocals, Value.category]; done) | rfl
def Q8 (Z : State) (u_NOT_EQUAL : Addr) (h0 : Heap) (n0 : Nat) (v : Option Value) (h : Heap) (L : List Loc) : Prop := v = some (.ref u_NOT_EQUAL) ∧ Fr n0 L ∧ h = h0
set_option maxRecDepth 65536 in
set_option maxHeartbeats 40000000 in
theorem rm8 (l : Launch) (Z : State) (a0 : Array Value) (hw : ∀ d ∈ tables_1, d.before a0 Z = true) (ws : List Jvm.Cond) (u_NOT_EQUAL : Addr) (h0 : Heap) (n0 : Nat) (Z0 : n0 ≤ h0.size) (S_NOT_EQUAL : Sta Z h0 "com/example/chop/chop/model/Relation" "NOT_EQUAL" "Lcom/example/chop/chop/model/Relation;" (.ref u_NOT_EQUAL)) :
    MetFree l (⟨"com/example/chop/chop/model/RelationIsBoundPinLaw", "pick", "(I)Lcom/example/chop/chop/model/Relation;"⟩ : MethodName) (head1 (Jvm.Cond.code (⟨"com/example/chop/chop/model/RelationIsBoundPinLaw", "pick", "(I)Lcom/example/chop/chop/model/Relation;"⟩ : MethodName) method_2_code 1 (some (.object "com/example/chop/chop/model/Relation")) :: ws) ({ frames := 0, cells := 0, slots := 0, locals := 0 } : Room)) (fun a U => a = #[(.int (1 : Int32))] ∧ Z.Warmed39 U.vm ∧ U.heap = h0) (fun _ _ _ _ _ => True) (fun _ U o U' => ∃ v L, o = .returned v ∧ Q8 Z u_NOT_EQUAL h0 n0 v U'.heap L ∧ FrameEnd U o U' L ({ frames := 0, cells := 0, slots := 0, locals := 0 } : Room).cells ({ frames := 0, cells := 0, slots := 0, locals := 0 } : Room).slots) := by
  refine MetFree.of_bodySF (plainFor_of_name pn_2) hisR ?_
  intro p e s m args below meth c s₁ Bd hml0 hP hK
  obtain ⟨rfl, hZ, hh⟩ := hP
  have hx := Bd.exec
  have hby := Bd.bytes
  have hml : c.maxLocals = 1 := hml0
  have hown : s.vm.findClass "com/example/chop/chop/model/RelationIsBoundPinLaw" = some m.cls := findClass_of_methodNamed Bd.named
  have hnm := (name_of_methodNamed Bd.named Bd.method).1
  have X0 : Stand p l e ({ frames := 0, cells := 0, slots := 0, locals := 0 } : Room) s m #[(.int (1 : Int32))] below meth c s₁ [] 0 0 := Stand.of_body Bd
  have e0 : s₁.heap = h0 := by rw [← hh, Bd.state]; rfl
  have N0 := Fr.nil n0
  have pre0 : ∀ t, Steps p.tables e below (s₁.setTop (mkF m 0 #[.val (.int (1 : Int32))] [])) t → Steps p.tables e below (s₁.setTop (entryFrame m #[(.int (1 : Int32))] 1)) t := fun t k => castTop (ef_8 m ) k
  obtain ⟨T1, X1, e1, st1⟩ := getS2 X0 hx hZ hown (host := "") (Or.inl (hw _ (List.mem_of_getElem? (i := 34) rfl))) Via.refl e0 S_NOT_EQUAL (g := (mkF m 13 #[.val (.int (1 : Int32))] [])) rfl (hb hby d8_13)
  have k2 : ∀ t, Steps p.tables e below (T1.setTop (mkF m 16 #[.val (.int (1 : Int32))] [(.ref u_NOT_EQUAL)])) t → Steps p.tables e below (s₁.setTop (entryFrame m #[(.int (1 : Int32))] 1)) t := by
    intro t k
    refine pre0 t ?_
    show Steps p.tables e below (s₁.setTop (mkF m 0 #[.val (.int (1 : Int32))] [])) _
    refine XS.iloadN X0.here hx rfl (hb hby d8_0) rfl ?_
    show Steps p.tables e below (s₁.setTop (mkF m 1 #[.val (.int (1 : Int32))] [(.int (1 : Int32))])) _
    refine XS.ifYes X0.here hx rfl (pc0 := 1) (pc' := 8) rfl (hb hby d8_1) rfl ((if0 _ _).trans (feq (by decide : ¬ ((1 : Int32) = (0 : Int32)))).2) (by decide) (by decide) ?_
    show Steps p.tables e below (s₁.setTop (mkF m 8 #[.val (.int (1 : Int32))] [])) _
    refine XS.iloadN X0.here hx rfl (hb hby d8_8) rfl ?_
    show Steps p.tables e below (s₁.setTop (mkF m 9 #[.val (.int (1 : Int32))] [(.int (1 : Int32))])) _
    refine XS.iconst X0.here hx rfl (hb hby d8_9) ?_
    show Steps p.tables e below (s₁.setTop (mkF m 10 #[.val (.int (1 : Int32))] [(.int (1 : Int32)), (.int (1 : Int32))])) _
    refine XS.icmpNo X0.here hx rfl (hb hby d8_10) rfl (teq (by decide : (1 : Int32) = (1 : Int32))).2 ?_
    show Steps p.tables e below (s₁.setTop (mkF m 13 #[.val (.int (1 : Int32))] [])) _
    refine st1 _ ?_
    exact k
  obtain ⟨fs, hr, hrun, hended, hW, hsame⟩ := X1.leave (v := some (.ref u_NOT_EQUAL)) (fun h => by rw [Bd.returns] at h; cases h)
  refine ⟨_, _, k2 _ ?_, hrun, hended, _, _, rfl, ?_, ⟨_, rfl⟩, hW, hsame.mono (by decide) (by decide)⟩
  · exact retOut X1 hx Bd.returns rfl (Or.inr (Or.inr (Or.inr (Or.inr ⟨rfl, rfl, rfl⟩)))) (hb hby d8_16) hr
  · show Q8 Z u_NOT_EQUAL h0 n0 _ T1.heap _
    rw [e1]
    exact ⟨rfl, N0, rfl⟩
theorem d9_0 : decode prog_4_method_10_code 0 = .ok (.aload_n 0, 1) := by decide +kernel
theorem d9_1 : decode prog_4_method_10_code 1 = .ok (.invokevirtual 48, 3) := by decide +kernel
theorem d9_4 : decode prog_4_method_10_code 4 = .ok (.tableswitch 40 0 5 #[50, 62, 74, 86, 98, 110], 40) := by decide +kernel
theorem d9_66 : decode prog_4_method_10_code 66 = .ok (.iload_n 1, 1) := by decide +kernel
theorem d9_67 : decode prog_4_method_10_code 67 = .ok (.ifCond .eq 7, 3) := by decide +kernel
theorem d9_70 : decode prog_4_method_10_code 70 = .ok (.iconst 1, 1) := by decide +kernel
theorem d9_71 : decode prog_4_method_10_code 71 = .ok (.goto 52, 3) := by decide +kernel
theorem d9_123 : decode prog_4_method_10_code 123 = .ok (.ireturn, 1) := by decide +kernel
theorem ef_9 (m : MethodId) (u_NOT_EQUAL : Addr) : entryFrame m #[(.ref u_NOT_EQUAL), (.int (-1 : Int32))] 2 = mkF m 0 #[.val (.ref u_NOT_EQUAL), .val (.int (-1 : Int32))] [] := by first | (simp [entryFrame, mkF, argsToLocals, Value.category]; done) | rfl
def Q9 (Z : State) (u_NOT_EQUAL : Addr) (h0 : Heap) (n0 : Nat) (v : Option Value) (h : Heap) (L : List Loc) : Prop := v = some (.int (1 : Int32)) ∧ Fr n0 L ∧ h = h0
set_option maxRecDepth 65536 in
set_option maxHeartbeats 40000000 in
theorem rm9 (l : Launch) (Z : State) (a0 : Array Value) (hw : ∀ d ∈ tables_1, d.before a0 Z = true) (ws : List Jvm.Cond) (u_NOT_EQUAL : Addr) (h0 : Heap) (n0 : Nat) (Z0 : n0 ≤ h0.size) (Ex : Exa Z h0 u_NOT_EQUAL "com/example/chop/chop/model/Relation") (Fo : Fld Z h0 u_NOT_EQUAL "java/lang/Enum" "ordinal" "I" (.int (1 : Int32))) :
    MetFree l (⟨"com/example/chop/chop/model/Relation", "holds", "(I)Z"⟩ : MethodName) (head1 (Jvm.Cond.code (⟨"com/example/chop/chop/model/Relation", "holds", "(I)Z"⟩ : MethodName) prog_4_method_10_code 2 (some .boolean) :: ws) ({ frames := 1, cells := 0, slots := 0, locals := 12 } : Room)) (fun a U => a = #[(.ref u_NOT_EQUAL), (.int (-1 : Int32))] ∧ Z.Warmed39 U.vm ∧ U.heap = h0) (fun _ _ _ _ _ => True) (fun _ U o U' => ∃ v L, o = .returned v ∧ Q9 Z u_NOT_EQUAL h0 n0 v U'.heap L ∧ FrameEnd U o U' L ({ frames := 1, cells := 0, slots := 0, locals := 12 } : Room).cells ({ frames := 1, cells := 0, slots := 0, locals := 12 } : Room).slots) := by
  refine MetFree.of_bodySF (plainFor_of_name pn_1) hisR ?_
  intro p e s m args below meth c s₁ Bd hml0 hP hK
  obtain ⟨rfl, hZ, hh⟩ := hP
  have hx := Bd.exec
  have hby := Bd.bytes
  have hml : c.maxLocals = 2 := hml0
  have hown : s.vm.findClass "com/example/chop/chop/model/Relation" = some m.cls := findClass_of_methodNamed Bd.named
  have hnm := (name_of_methodNamed Bd.named Bd.method).1
  have X0 : Stand p l e ({ frames := 1, cells := 0, slots := 0, locals := 12 } : Room) s m #[(.ref u_NOT_EQUAL), (.int (-1 : Int32))] below meth c s₁ [] 0 0 := Stand.of_body Bd
  have e0 : s₁.heap = h0 := by rw [← hh, Bd.state]; rfl
  have N0 := Fr.nil n0
  have pre0 : ∀ t, Steps p.tables e below (s₁.setTop (mkF m 0 #[.val (.ref u_NOT_EQUAL), .val (.int (-1 : Int32))] [])) t → Steps p.tables e below (s₁.setTop (entryFrame m #[(.ref u_NOT_EQUAL), (.int (-1 : Int32))] 2)) t := fun t k => castTop (ef_9 m u_NOT_EQUAL) k
  obtain ⟨cq1, kq1, q1a, q1b, q1c⟩ := isOf hZ e0 Ex
  obtain ⟨_, _, ⟨T1, L1, k1, n1⟩, -, X1, ⟨Lc1, hQ1, l1, y1, z1⟩, st1⟩ := X0.virtualBackUp hx (x := (⟨"com/example/chop/chop/model/Relation", "ordinal", "()I"⟩ : MethodName)) (y := (⟨"java/lang/Enum", "ordinal", "()I"⟩ : MethodName)) (owner := "java/lang/Enum") hown (mvT hZ (hw _ (List.mem_of_getElem? (i := 19) rfl))) (mvT hZ (hw _ (List.mem_of_getElem? (i := 20) rfl))) (mvT hZ (hw _ (List.mem_of_getElem? (i := 21) rfl))) (by decide) (mvT hZ (hw _ (List.mem_of_getElem? (i := 23) rfl))) (mvT hZ (hw _ (List.mem_of_getElem? (i := 22) rfl))) (backOf (W := 0) (rm6 l Z a0 hw [] u_NOT_EQUAL h0 n0 Z0 Fo) hZ (hw _ (List.mem_of_getElem? (i := 25) rfl)) (hw _ (List.mem_of_getElem? (i := 24) rfl)) (by decide) (by decide)) q1a q1c (g := (mkF m 1 #[.val (.ref u_NOT_EQUAL), .val (.int (-1 : Int32))] [(.ref u_NOT_EQUAL)])) rfl (by rw [hml]; rfl) (Steps.refl _) (argsL := []) (rest := []) (lenOf pd_0 rfl) rfl (by show 2 * 0 + _ ≤ _; exact Nat.le_of_eq rfl) (hb hby d9_1) (fun _ _ => ⟨rfl, e0, (by decide : 0 + 0 ≤ _), (by decide : 0 + 0 ≤ _)⟩)
  dsimp only [Pt.U, Pt.locs, Pt.cells, Pt.slots] at X1 l1 y1 z1 st1 hQ1
  subst l1 y1 z1
  obtain ⟨rfl, N1q, eh1⟩ := hQ1
  have N1 := Fr.app N0 N1q
  have k2 : ∀ t, Steps p.tables e below (T1.setTop (mkF m 123 #[.val (.ref u_NOT_EQUAL), .val (.int (-1 : Int32))] [(.int (1 : Int32))])) t → Steps p.tables e below (s₁.setTop (entryFrame m #[(.ref u_NOT_EQUAL), (.int (-1 : Int32))] 2)) t := by
    intro t k
    refine pre0 t ?_
    show Steps p.tables e below (s₁.setTop (mkF m 0 #[.val (.ref u_NOT_EQUAL), .val (.int (-1 : Int32))] [])) _
    refine XS.aloadN X0.here hx rfl (hb hby d9_0) rfl rfl ?_
    show Steps p.tables e below (s₁.setTop (mkF m 1 #[.val (.ref u_NOT_EQUAL), .val (.int (-1 : Int32))] [(.ref u_NOT_EQUAL)])) _
    refine st1.trans ?_
    show Steps p.tables e below (T1.setTop (mkF m 4 #[.val (.ref u_NOT_EQUAL), .val (.int (-1 : Int32))] [(.int (1 : Int32))])) _
    refine XS.tswIn X1.here hx rfl (pc0 := 4) (pc' := 66) rfl (hb hby d9_4) rfl (by decide) rfl (by decide) (by decide) ?_
    show Steps p.tables e below (T1.setTop (mkF m 66 #[.val (.ref u_NOT_EQUAL), .val (.int (-1 : Int32))] [])) _
    refine XS.iloadN X1.here hx rfl (hb hby d9_66) rfl ?_
    show Steps p.tables e below (T1.setTop (mkF m 67 #[.val (.ref u_NOT_EQUAL), .val (.int (-1 : Int32))] [(.int (-1 : Int32))])) _
    refine XS.ifNo X1.here hx rfl (hb hby d9_67) rfl ((if0 _ _).trans (feq (by decide : ¬ ((-1 : Int32) = (0 : Int32)))).1) ?_
    show Steps p.tables e below (T1.setTop (mkF m 70 #[.val (.ref u_NOT_EQUAL), .val (.int (-1 : Int32))] [])) _
    refine XS.iconst X1.here hx rfl (hb hby d9_70) ?_
    show Steps p.tables e below (T1.setTop (mkF m 71 #[.val (.ref u_NOT_EQUAL), .val (.int (-1 : Int32))] [(.int (1 : Int32))])) _
    refine XS.goto X1.here hx rfl (pc0 := 71) (pc' := 123) rfl (hb hby d9_71) (by decide) (by decide) ?_
    exact k
  obtain ⟨fs, hr, hrun, hended, hW, hsame⟩ := X1.leave (v := some (.int (1 : Int32))) (fun h => by rw [Bd.returns] at h; cases h)
  refine ⟨_, _, k2 _ ?_, hrun, hended, _, _, rfl, ?_, ⟨_, rfl⟩, hW, hsame.mono (by decide) (by decide)⟩
  · exact retN X1 hx (t := .boolean) Bd.returns (by simp) (hb hby d9_123) hr
  · show Q9 Z u_NOT_EQUAL h0 n0 _ T1.heap _
    rw [eh1]
    exact ⟨rfl, N1, rfl⟩
theorem d10_0 : decode prog_4_method_10_code 0 = .ok (.aload_n 0, 1) := by decide +kernel
theorem d10_1 : decode prog_4_method_10_code 1 = .ok (.invokevirtual 48, 3) := by decide +kernel
theorem d10_4 : decode prog_4_method_10_code 4 = .ok (.tableswitch 40 0 5 #[50, 62, 74, 86, 98, 110], 40) := by decide +kernel
theorem d10_66 : decode prog_4_method_10_code 66 = .ok (.iload_n 1, 1) := by decide +kernel
theorem d10_67 : decode prog_4_method_10_code 67 = .ok (.ifCond .eq 7, 3) := by decide +kernel
theorem d10_70 : decode prog_4_method_10_code 70 = .ok (.iconst 1, 1) := by decide +kernel
theorem d10_71 : decode prog_4_method_10_code 71 = .ok (.goto 52, 3) := by decide +kernel
theorem d10_123 : decode prog_4_method_10_code 123 = .ok (.ireturn, 1) := by decide +kernel
theorem ef_10 (m : MethodId) (u_NOT_EQUAL : Addr) : entryFrame m #[(.ref u_NOT_EQUAL), (.int (1 : Int32))] 2 = mkF m 0 #[.val (.ref u_NOT_EQUAL), .val (.int (1 : Int32))] [] := by first | (simp [entryFrame, mkF, argsToLocals, Value.category]; done) | rfl
def Q10 (Z : State) (u_NOT_EQUAL : Addr) (h0 : Heap) (n0 : Nat) (v : Option Value) (h : Heap) (L : List Loc) : Prop := v = some (.int (1 : Int32)) ∧ Fr n0 L ∧ h = h0
set_option maxRecDepth 65536 in
set_option maxHeartbeats 40000000 in
theorem rm10 (l : Launch) (Z : State) (a0 : Array Value) (hw : ∀ d ∈ tables_1, d.before a0 Z = true) (ws : List Jvm.Cond) (u_NOT_EQUAL : Addr) (h0 : Heap) (n0 : Nat) (Z0 : n0 ≤ h0.size) (Ex : Exa Z h0 u_NOT_EQUAL "com/example/chop/chop/model/Relation") (Fo : Fld Z h0 u_NOT_EQUAL "java/lang/Enum" "ordinal" "I" (.int (1 : Int32))) :
    MetFree l (⟨"com/example/chop/chop/model/Relation", "holds", "(I)Z"⟩ : MethodName) (head1 (Jvm.Cond.code (⟨"com/example/chop/chop/model/Relation", "holds", "(I)Z"⟩ : MethodName) prog_4_method_10_code 2 (some .boolean) :: ws) ({ frames := 1, cells := 0, slots := 0, locals := 12 } : Room)) (fun a U => a = #[(.ref u_NOT_EQUAL), (.int (1 : Int32))] ∧ Z.Warmed39 U.vm ∧ U.heap = h0) (fun _ _ _ _ _ => True) (fun _ U o U' => ∃ v L, o = .returned v ∧ Q10 Z u_NOT_EQUAL h0 n0 v U'.heap L ∧ FrameEnd U o U' L ({ frames := 1, cells := 0, slots := 0, locals := 12 } : Room).cells ({ frames := 1, cells := 0, slots := 0, locals := 12 } : Room).slots) := by
  refine MetFree.of_bodySF (plainFor_of_name pn_1) hisR ?_
  intro p e s m args below meth c s₁ Bd hml0 hP hK
  obtain ⟨rfl, hZ, hh⟩ := hP
  have hx := Bd.exec
  have hby := Bd.bytes
  have hml : c.maxLocals = 2 := hml0
  have hown : s.vm.findClass "com/example/chop/chop/model/Relation" = some m.cls := findClass_of_methodNamed Bd.named
  have hnm := (name_of_methodNamed Bd.named Bd.method).1
  have X0 : Stand p l e ({ frames := 1, cells := 0, slots := 0, locals := 12 } : Room) s m #[(.ref u_NOT_EQUAL), (.int (1 : Int32))] below meth c s₁ [] 0 0 := Stand.of_body Bd
  have e0 : s₁.heap = h0 := by rw [← hh, Bd.state]; rfl
  have N0 := Fr.nil n0
  have pre0 : ∀ t, Steps p.tables e below (s₁.setTop (mkF m 0 #[.val (.ref u_NOT_EQUAL), .val (.int (1 : Int32))] [])) t → Steps p.tables e below (s₁.setTop (entryFrame m #[(.ref u_NOT_EQUAL), (.int (1 : Int32))] 2)) t := fun t k => castTop (ef_10 m u_NOT_EQUAL) k
  obtain ⟨cq1, kq1, q1a, q1b, q1c⟩ := isOf hZ e0 Ex
  obtain ⟨_, _, ⟨T1, L1, k1, n1⟩, -, X1, ⟨Lc1, hQ1, l1, y1, z1⟩, st1⟩ := X0.virtualBackUp hx (x := (⟨"com/example/chop/chop/model/Relation", "ordinal", "()I"⟩ : MethodName)) (y := (⟨"java/lang/Enum", "ordinal", "()I"⟩ : MethodName)) (owner := "java/lang/Enum") hown (mvT hZ (hw _ (List.mem_of_getElem? (i := 19) rfl))) (mvT hZ (hw _ (List.mem_of_getElem? (i := 20) rfl))) (mvT hZ (hw _ (List.mem_of_getElem? (i := 21) rfl))) (by decide) (mvT hZ (hw _ (List.mem_of_getElem? (i := 23) rfl))) (mvT hZ (hw _ (List.mem_of_getElem? (i := 22) rfl))) (backOf (W := 0) (rm6 l Z a0 hw [] u_NOT_EQUAL h0 n0 Z0 Fo) hZ (hw _ (List.mem_of_getElem? (i := 25) rfl)) (hw _ (List.mem_of_getElem? (i := 24) rfl)) (by decide) (by decide)) q1a q1c (g := (mkF m 1 #[.val (.ref u_NOT_EQUAL), .val (.int (1 : Int32))] [(.ref u_NOT_EQUAL)])) rfl (by rw [hml]; rfl) (Steps.refl _) (argsL := []) (rest := []) (lenOf pd_0 rfl) rfl (by show 2 * 0 + _ ≤ _; exact Nat.le_of_eq rfl) (hb hby d10_1) (fun _ _ => ⟨rfl, e0, (by decide : 0 + 0 ≤ _), (by decide : 0 + 0 ≤ _)⟩)
  dsimp only [Pt.U, Pt.locs, Pt.cells, Pt.slots] at X1 l1 y1 z1 st1 hQ1
  subst l1 y1 z1
  obtain ⟨rfl, N1q, eh1⟩ := hQ1
  have N1 := Fr.app N0 N1q
  have k2 : ∀ t, Steps p.tables e below (T1.setTop (mkF m 123 #[.val (.ref u_NOT_EQUAL), .val (.int (1 : Int32))] [(.int (1 : Int32))])) t → Steps p.tables e below (s₁.setTop (entryFrame m #[(.ref u_NOT_EQUAL), (.int (1 : Int32))] 2)) t := by
    intro t k
    refine pre0 t ?_
    show Steps p.tables e below (s₁.setTop (mkF m 0 #[.val (.ref u_NOT_EQUAL), .val (.int (1 : Int32))] [])) _
    refine XS.aloadN X0.here hx rfl (hb hby d10_0) rfl rfl ?_
    show Steps p.tables e below (s₁.setTop (mkF m 1 #[.val (.ref u_NOT_EQUAL), .val (.int (1 : Int32))] [(.ref u_NOT_EQUAL)])) _
    refine st1.trans ?_
    show Steps p.tables e below (T1.setTop (mkF m 4 #[.val (.ref u_NOT_EQUAL), .val (.int (1 : Int32))] [(.int (1 : Int32))])) _
    refine XS.tswIn X1.here hx rfl (pc0 := 4) (pc' := 66) rfl (hb hby d10_4) rfl (by decide) rfl (by decide) (by decide) ?_
    show Steps p.tables e below (T1.setTop (mkF m 66 #[.val (.ref u_NOT_EQUAL), .val (.int (1 : Int32))] [])) _
    refine XS.iloadN X1.here hx rfl (hb hby d10_66) rfl ?_
    show Steps p.tables e below (T1.setTop (mkF m 67 #[.val (.ref u_NOT_EQUAL), .val (.int (1 : Int32))] [(.int (1 : Int32))])) _
    refine XS.ifNo X1.here hx rfl (hb hby d10_67) rfl ((if0 _ _).trans (feq (by decide : ¬ ((1 : Int32) = (0 : Int32)))).1) ?_
    show Steps p.tables e below (T1.setTop (mkF m 70 #[.val (.ref u_NOT_EQUAL), .val (.int (1 : Int32))] [])) _
    refine XS.iconst X1.here hx rfl (hb hby d10_70) ?_
    show Steps p.tables e below (T1.setTop (mkF m 71 #[.val (.ref u_NOT_EQUAL), .val (.int (1 : Int32))] [(.int (1 : Int32))])) _
    refine XS.goto X1.here hx rfl (pc0 := 71) (pc' := 123) rfl (hb hby d10_71) (by decide) (by decide) ?_
    exact k
  obtain ⟨fs, hr, hrun, hended, hW, hsame⟩ := X1.leave (v := some (.int (1 : Int32))) (fun h => by rw [Bd.returns] at h; cases h)
  refine ⟨_, _, k2 _ ?_, hrun, hended, _, _, rfl, ?_, ⟨_, rfl⟩, hW, hsame.mono (by decide) (by decide)⟩
  · exact retN X1 hx (t := .boolean) Bd.returns (by simp) (hb hby d10_123) hr
  · show Q10 Z u_NOT_EQUAL h0 n0 _ T1.heap _
    rw [eh1]
    exact ⟨rfl, N1, rfl⟩
theorem d11_0 : decode jdk_37_method_2_code 0 = .ok (.aload_n 0, 1) := by decide +kernel
theorem d11_1 : decode jdk_37_method_2_code 1 = .ok (.getfield 7, 3) := by decide +kernel
theorem d11_4 : decode jdk_37_method_2_code 4 = .ok (.ireturn, 1) := by decide +kernel
theorem ef_11 (m : MethodId) (a11_0 : Addr) : entryFrame m #[(.ref a11_0)] 1 = mkF m 0 #[.val (.ref a11_0)] [] := by first | (simp [entryFrame, mkF, argsToLocals, Value.category]; done) | rfl
def Q11 (Z : State) (a11_0 : Addr) (h0 : Heap) (n0 : Nat) (v : Option Value) (h : Heap) (L : List Loc) : Prop := v = some (.int (2 : Int32)) ∧ Fr n0 L ∧ h = h0
set_option maxRecDepth 65536 in
set_option maxHeartbeats 40000000 in
theorem rm11 (l : Launch) (Z : State) (a0 : Array Value) (hw : ∀ d ∈ tables_1, d.before a0 Z = true) (ws : List Jvm.Cond) (a11_0 : Addr) (h0 : Heap) (n0 : Nat) (Z0 : n0 ≤ h0.size) (Fo : Fld Z h0 a11_0 "java/lang/Enum" "ordinal" "I" (.int (2 : Int32))) :
    MetFree l (⟨"java/lang/Enum", "ordinal", "()I"⟩ : MethodName) (head1 (Jvm.Cond.code (⟨"java/lang/Enum", "ordinal", "()I"⟩ : MethodName) jdk_37_method_2_code 1 (some .int) :: ws) ({ frames := 0, cells := 0, slots := 0, locals := 0 } : Room)) (fun a U => a = #[(.ref a11_0)] ∧ Z.Warmed39 U.vm ∧ U.heap = h0) (fun _ _ _ _ _ => True) (fun _ U o U' => ∃ v L, o = .returned v ∧ Q11 Z a11_0 h0 n0 v U'.heap L ∧ FrameEnd U o U' L ({ frames := 0, cells := 0, slots := 0, locals := 0 } : Room).cells ({ frames := 0, cells := 0, slots := 0, locals := 0 } : Room).slots) := by
  refine MetFree.of_bodySF (plainFor_of_name pn_0) hisR ?_
  intro p e s m args below meth c s₁ Bd hml0 hP hK
  obtain ⟨rfl, hZ, hh⟩ := hP
  have hx := Bd.exec
  have hby := Bd.bytes
  have hml : c.maxLocals = 1 := hml0
  have hown : s.vm.findClass "java/lang/Enum" = some m.cls := findClass_of_methodNamed Bd.named
  have hnm := (name_of_methodNamed Bd.named Bd.method).1
  have X0 : Stand p l e ({ frames := 0, cells := 0, slots := 0, locals := 0 } : Room) s m #[(.ref a11_0)] below meth c s₁ [] 0 0 := Stand.of_body Bd
  have e0 : s₁.heap = h0 := by rw [← hh, Bd.state]; rfl
  have N0 := Fr.nil n0
  have pre0 : ∀ t, Steps p.tables e below (s₁.setTop (mkF m 0 #[.val (.ref a11_0)] [])) t → Steps p.tables e below (s₁.setTop (entryFrame m #[(.ref a11_0)] 1)) t := fun t k => castTop (ef_11 m a11_0) k
  obtain ⟨T1, X1, e1, st1⟩ := getF X0 hx hZ hown (host := "") (Or.inl (hw _ (List.mem_of_getElem? (i := 26) rfl))) Via.refl e0 Fo (g := (mkF m 1 #[.val (.ref a11_0)] [(.ref a11_0)])) rfl rfl (hb hby d11_1)
  have k2 : ∀ t, Steps p.tables e below (T1.setTop (mkF m 4 #[.val (.ref a11_0)] [(.int (2 : Int32))])) t → Steps p.tables e below (s₁.setTop (entryFrame m #[(.ref a11_0)] 1)) t := by
    intro t k
    refine pre0 t ?_
    show Steps p.tables e below (s₁.setTop (mkF m 0 #[.val (.ref a11_0)] [])) _
    refine XS.aloadN X0.here hx rfl (hb hby d11_0) rfl rfl ?_
    show Steps p.tables e below (s₁.setTop (mkF m 1 #[.val (.ref a11_0)] [(.ref a11_0)])) _
    refine st1 _ ?_
    exact k
  obtain ⟨fs, hr, hrun, hended, hW, hsame⟩ := X1.leave (v := some (.int (2 : Int32))) (fun h => by rw [Bd.returns] at h; cases h)
  refine ⟨_, _, k2 _ ?_, hrun, hended, _, _, rfl, ?_, ⟨_, rfl⟩, hW, hsame.mono (by decide) (by decide)⟩
  · exact retI X1 hx Bd.returns (hb hby d11_4) hr
  · show Q11 Z a11_0 h0 n0 _ T1.heap _
    rw [e1]
    exact ⟨rfl, N0, rfl⟩
theorem d12_0 : decode prog_4_method_6_code 0 = .ok (.aload_n 0, 1) := by decide +kernel
theorem d12_1 : decode prog_4_method_6_code 1 = .ok (.getstatic 3, 3) := by decide +kernel
theorem d12_4 : decode prog_4_method_6_code 4 = .ok (.if_acmp .eq 14, 3) := by decide +kernel
theorem d12_7 : decode prog_4_method_6_code 7 = .ok (.aload_n 0, 1) := by decide +kernel
theorem d12_8 : decode prog_4_method_6_code 8 = .ok (.getstatic 7, 3) := by decide +kernel
theorem d12_11 : decode prog_4_method_6_code 11 = .ok (.if_acmp .eq 7, 3) := by decide +kernel
theorem d12_14 : decode prog_4_method_6_code 14 = .ok (.iconst 1, 1) := by decide +kernel
theorem d12_15 : decode prog_4_method_6_code 15 = .ok (.goto 4, 3) := by decide +kernel
theorem d12_19 : decode prog_4_method_6_code 19 = .ok (.ireturn, 1) := by decide +kernel
theorem ef_12 (m : MethodId) (u_LESS : Addr) : entryFrame m #[(.ref u_LESS)] 1 = mkF m 0 #[.val (.ref u_LESS)] [] := by first | (simp [entryFrame, mkF, argsToLocals, Value.category]; done) | rfl
def Q12 (Z : State) (u_LESS : Addr) (u_EQUAL : Addr) (u_NOT_EQUAL : Addr) (h0 : Heap) (n0 : Nat) (v : Option Value) (h : Heap) (L : List Loc) : Prop := v = some (.int (1 : Int32)) ∧ Fr n0 L ∧ h = h0
set_option maxRecDepth 65536 in
set_option maxHeartbeats 40000000 in
theorem rm12 (l : Launch) (Z : State) (a0 : Array Value) (hw : ∀ d ∈ tables_1, d.before a0 Z = true) (ws : List Jvm.Cond) (u_LESS : Addr) (u_EQUAL : Addr) (u_NOT_EQUAL : Addr) (h0 : Heap) (n0 : Nat) (Z0 : n0 ≤ h0.size) (S_EQUAL : Sta Z h0 "com/example/chop/chop/model/Relation" "EQUAL" "Lcom/example/chop/chop/model/Relation;" (.ref u_EQUAL)) (S_NOT_EQUAL : Sta Z h0 "com/example/chop/chop/model/Relation" "NOT_EQUAL" "Lcom/example/chop/chop/model/Relation;" (.ref u_NOT_EQUAL)) (hne_EQUAL : u_LESS ≠ u_EQUAL) (hne_NOT_EQUAL : u_LESS ≠ u_NOT_EQUAL) :
    MetFree l (⟨"com/example/chop/chop/model/Relation", "isBound", "()Z"⟩ : MethodName) (head1 (Jvm.Cond.code (⟨"com/example/chop/chop/model/Relation", "isBound", "()Z"⟩ : MethodName) prog_4_method_6_code 1 (some .boolean) :: ws) ({ frames := 0, cells := 0, slots := 0, locals := 0 } : Room)) (fun a U => a = #[(.ref u_LESS)] ∧ Z.Warmed39 U.vm ∧ U.heap = h0) (fun _ _ _ _ _ => True) (fun _ U o U' => ∃ v L, o = .returned v ∧ Q12 Z u_LESS u_EQUAL u_NOT_EQUAL h0 n0 v U'.heap L ∧ FrameEnd U o U' L ({ frames := 0, cells := 0, slots := 0, locals := 0 } : Room).cells ({ frames := 0, cells := 0, slots := 0, locals := 0 } : Room).slots) := by
  refine MetFree.of_bodySF (plainFor_of_name pn_1) hisR ?_
  intro p e s m args below meth c s₁ Bd hml0 hP hK
  obtain ⟨rfl, hZ, hh⟩ := hP
  have hx := Bd.exec
  have hby := Bd.bytes
  have hml : c.maxLocals = 1 := hml0
  have hown : s.vm.findClass "com/example/chop/chop/model/Relation" = some m.cls := findClass_of_methodNamed Bd.named
  have hnm := (name_of_methodNamed Bd.named Bd.method).1
  have X0 : Stand p l e ({ frames := 0, cells := 0, slots := 0, locals := 0 } : Room) s m #[(.ref u_LESS)] below meth c s₁ [] 0 0 := Stand.of_body Bd
  have e0 : s₁.heap = h0 := by rw [← hh, Bd.state]; rfl
  have N0 := Fr.nil n0
  have pre0 : ∀ t, Steps p.tables e below (s₁.setTop (mkF m 0 #[.val (.ref u_LESS)] [])) t → Steps p.tables e below (s₁.setTop (entryFrame m #[(.ref u_LESS)] 1)) t := fun t k => castTop (ef_12 m u_LESS) k
  obtain ⟨T1, X1, e1, st1⟩ := getS2 X0 hx hZ hown (host := "") (Or.inl (hw _ (List.mem_of_getElem? (i := 13) rfl))) Via.refl e0 S_EQUAL (g := (mkF m 1 #[.val (.ref u_LESS)] [(.ref u_LESS)])) rfl (hb hby d12_1)
  obtain ⟨T2, X2, e2, st2⟩ := getS2 X1 hx hZ hown (host := "") (Or.inl (hw _ (List.mem_of_getElem? (i := 30) rfl))) Via.refl e1 S_NOT_EQUAL (g := (mkF m 8 #[.val (.ref u_LESS)] [(.ref u_LESS)])) rfl (hb hby d12_8)
  have k3 : ∀ t, Steps p.tables e below (T2.setTop (mkF m 19 #[.val (.ref u_LESS)] [(.int (1 : Int32))])) t → Steps p.tables e below (s₁.setTop (entryFrame m #[(.ref u_LESS)] 1)) t := by
    intro t k
    refine pre0 t ?_
    show Steps p.tables e below (s₁.setTop (mkF m 0 #[.val (.ref u_LESS)] [])) _
    refine XS.aloadN X0.here hx rfl (hb hby d12_0) rfl rfl ?_
    show Steps p.tables e below (s₁.setTop (mkF m 1 #[.val (.ref u_LESS)] [(.ref u_LESS)])) _
    refine st1 _ ?_
    show Steps p.tables e below (T1.setTop (mkF m 4 #[.val (.ref u_LESS)] [(.ref u_EQUAL), (.ref u_LESS)])) _
    refine Jvm.RoadKit.acmp (g := (mkF m 4 #[.val (.ref u_LESS)] [(.ref u_EQUAL), (.ref u_LESS)])) X1 hx rfl rfl rfl (pc0 := 4) (pc' := 7) (same := false) rfl (hb hby d12_4) rfl (decide_eq_false fun q => hne_EQUAL (Value.ref.inj q)) (by decide) (by decide) ?_
    show Steps p.tables e below (T1.setTop (mkF m 7 #[.val (.ref u_LESS)] [])) _
    refine XS.aloadN X1.here hx rfl (hb hby d12_7) rfl rfl ?_
    show Steps p.tables e below (T1.setTop (mkF m 8 #[.val (.ref u_LESS)] [(.ref u_LESS)])) _
    refine st2 _ ?_
    show Steps p.tables e below (T2.setTop (mkF m 11 #[.val (.ref u_LESS)] [(.ref u_NOT_EQUAL), (.ref u_LESS)])) _
    refine Jvm.RoadKit.acmp (g := (mkF m 11 #[.val (.ref u_LESS)] [(.ref u_NOT_EQUAL), (.ref u_LESS)])) X2 hx rfl rfl rfl (pc0 := 11) (pc' := 14) (same := false) rfl (hb hby d12_11) rfl (decide_eq_false fun q => hne_NOT_EQUAL (Value.ref.inj q)) (by decide) (by decide) ?_
    show Steps p.tables e below (T2.setTop (mkF m 14 #[.val (.ref u_LESS)] [])) _
    refine XS.iconst X2.here hx rfl (hb hby d12_14) ?_
    show Steps p.tables e below (T2.setTop (mkF m 15 #[.val (.ref u_LESS)] [(.int (1 : Int32))])) _
    refine XS.goto X2.here hx rfl (pc0 := 15) (pc' := 19) rfl (hb hby d12_15) (by decide) (by decide) ?_
    exact k
  obtain ⟨fs, hr, hrun, hended, hW, hsame⟩ := X2.leave (v := some (.int (1 : Int32))) (fun h => by rw [Bd.returns] at h; cases h)
  refine ⟨_, _, k3 _ ?_, hrun, hended, _, _, rfl, ?_, ⟨_, rfl⟩, hW, hsame.mono (by decide) (by decide)⟩
  · exact retN X2 hx (t := .boolean) Bd.returns (by simp) (hb hby d12_19) hr
  · show Q12 Z u_LESS u_EQUAL u_NOT_EQUAL h0 n0 _ T2.heap _
    rw [e2]
    exact ⟨rfl, N0, rfl⟩
theorem d13_0 : decode method_2_code 0 = .ok (.iload_n 0, 1) := by decide +kernel
theorem d13_1 : decode method_2_code 1 = .ok (.ifCond .ne 7, 3) := by decide +kernel
theorem d13_8 : decode method_2_code 8 = .ok (.iload_n 0, 1) := by decide +kernel
theorem d13_9 : decode method_2_code 9 = .ok (.iconst 1, 1) := by decide +kernel
theorem d13_10 : decode method_2_code 10 = .ok (.if_icmp .ne 7, 3) := by decide +kernel
theorem d13_17 : decode method_2_code 17 = .ok (.iload_n 0, 1) := by decide +kernel
theorem d13_18 : decode method_2_code 18 = .ok (.iconst 2, 1) := by decide +kernel
theorem d13_19 : decode method_2_code 19 = .ok (.if_icmp .ne 7, 3) := by decide +kernel
theorem d13_22 : decode method_2_code 22 = .ok (.getstatic 16, 3) := by decide +kernel
theorem d13_25 : decode method_2_code 25 = .ok (.areturn, 1) := by decide +kernel
theorem ef_13 (m : MethodId)  : entryFrame m #[(.int (2 : Int32))] 1 = mkF m 0 #[.val (.int (2 : Int32))] [] := by first | (simp [entryFrame, mkF, argsToLocals, Value.category]; done) | rfl
def Q13 (Z : State) (u_LESS : Addr) (h0 : Heap) (n0 : Nat) (v : Option Value) (h : Heap) (L : List Loc) : Prop := v = some (.ref u_LESS) ∧ Fr n0 L ∧ h = h0
set_option maxRecDepth 65536 in
set_option maxHeartbeats 40000000 in
theorem rm13 (l : Launch) (Z : State) (a0 : Array Value) (hw : ∀ d ∈ tables_1, d.before a0 Z = true) (ws : List Jvm.Cond) (u_LESS : Addr) (h0 : Heap) (n0 : Nat) (Z0 : n0 ≤ h0.size) (S_LESS : Sta Z h0 "com/example/chop/chop/model/Relation" "LESS" "Lcom/example/chop/chop/model/Relation;" (.ref u_LESS)) :
    MetFree l (⟨"com/example/chop/chop/model/RelationIsBoundPinLaw", "pick", "(I)Lcom/example/chop/chop/model/Relation;"⟩ : MethodName) (head1 (Jvm.Cond.code (⟨"com/example/chop/chop/model/RelationIsBoundPinLaw", "pick", "(I)Lcom/example/chop/chop/model/Relation;"⟩ : MethodName) method_2_code 1 (some (.object "com/example/chop/chop/model/Relation")) :: ws) ({ frames := 0, cells := 0, slots := 0, locals := 0 } : Room)) (fun a U => a = #[(.int (2 : Int32))] ∧ Z.Warmed39 U.vm ∧ U.heap = h0) (fun _ _ _ _ _ => True) (fun _ U o U' => ∃ v L, o = .returned v ∧ Q13 Z u_LESS h0 n0 v U'.heap L ∧ FrameEnd U o U' L ({ frames := 0, cells := 0, slots := 0, locals := 0 } : Room).cells ({ frames := 0, cells := 0, slots := 0, locals := 0 } : Room).slots) := by
  refine MetFree.of_bodySF (plainFor_of_name pn_2) hisR ?_
  intro p e s m args below meth c s₁ Bd hml0 hP hK
  obtain ⟨rfl, hZ, hh⟩ := hP
  have hx := Bd.exec
  have hby := Bd.bytes
  have hml : c.maxLocals = 1 := hml0
  have hown : s.vm.findClass "com/example/chop/chop/model/RelationIsBoundPinLaw" = some m.cls := findClass_of_methodNamed Bd.named
  have hnm := (name_of_methodNamed Bd.named Bd.method).1
  have X0 : Stand p l e ({ frames := 0, cells := 0, slots := 0, locals := 0 } : Room) s m #[(.int (2 : Int32))] below meth c s₁ [] 0 0 := Stand.of_body Bd
  have e0 : s₁.heap = h0 := by rw [← hh, Bd.state]; rfl
  have N0 := Fr.nil n0
  have pre0 : ∀ t, Steps p.tables e below (s₁.setTop (mkF m 0 #[.val (.int (2 : Int32))] [])) t → Steps p.tables e below (s₁.setTop (entryFrame m #[(.int (2 : Int32))] 1)) t := fun t k => castTop (ef_13 m ) k
  obtain ⟨T1, X1, e1, st1⟩ := getS2 X0 hx hZ hown (host := "") (Or.inl (hw _ (List.mem_of_getElem? (i := 32) rfl))) Via.refl e0 S_LESS (g := (mkF m 22 #[.val (.int (2 : Int32))] [])) rfl (hb hby d13_22)
  have k2 : ∀ t, Steps p.tables e below (T1.setTop (mkF m 25 #[.val (.int (2 : Int32))] [(.ref u_LESS)])) t → Steps p.tables e below (s₁.setTop (entryFrame m #[(.int (2 : Int32))] 1)) t := by
    intro t k
    refine pre0 t ?_
    show Steps p.tables e below (s₁.setTop (mkF m 0 #[.val (.int (2 : Int32))] [])) _
    refine XS.iloadN X0.here hx rfl (hb hby d13_0) rfl ?_
    show Steps p.tables e below (s₁.setTop (mkF m 1 #[.val (.int (2 : Int32))] [(.int (2 : Int32))])) _
    refine XS.ifYes X0.here hx rfl (pc0 := 1) (pc' := 8) rfl (hb hby d13_1) rfl ((if0 _ _).trans (feq (by decide : ¬ ((2 : Int32) = (0 : Int32)))).2) (by decide) (by decide) ?_
    show Steps p.tables e below (s₁.setTop (mkF m 8 #[.val (.int (2 : Int32))] [])) _
    refine XS.iloadN X0.here hx rfl (hb hby d13_8) rfl ?_
    show Steps p.tables e below (s₁.setTop (mkF m 9 #[.val (.int (2 : Int32))] [(.int (2 : Int32))])) _
    refine XS.iconst X0.here hx rfl (hb hby d13_9) ?_
    show Steps p.tables e below (s₁.setTop (mkF m 10 #[.val (.int (2 : Int32))] [(.int (1 : Int32)), (.int (2 : Int32))])) _
    refine XS.icmpYes X0.here hx rfl (pc0 := 10) (pc' := 17) rfl (hb hby d13_10) rfl (feq (by decide : ¬ ((2 : Int32) = (1 : Int32)))).2 (by decide) (by decide) ?_
    show Steps p.tables e below (s₁.setTop (mkF m 17 #[.val (.int (2 : Int32))] [])) _
    refine XS.iloadN X0.here hx rfl (hb hby d13_17) rfl ?_
    show Steps p.tables e below (s₁.setTop (mkF m 18 #[.val (.int (2 : Int32))] [(.int (2 : Int32))])) _
    refine XS.iconst X0.here hx rfl (hb hby d13_18) ?_
    show Steps p.tables e below (s₁.setTop (mkF m 19 #[.val (.int (2 : Int32))] [(.int (2 : Int32)), (.int (2 : Int32))])) _
    refine XS.icmpNo X0.here hx rfl (hb hby d13_19) rfl (teq (by decide : (2 : Int32) = (2 : Int32))).2 ?_
    show Steps p.tables e below (s₁.setTop (mkF m 22 #[.val (.int (2 : Int32))] [])) _
    refine st1 _ ?_
    exact k
  obtain ⟨fs, hr, hrun, hended, hW, hsame⟩ := X1.leave (v := some (.ref u_LESS)) (fun h => by rw [Bd.returns] at h; cases h)
  refine ⟨_, _, k2 _ ?_, hrun, hended, _, _, rfl, ?_, ⟨_, rfl⟩, hW, hsame.mono (by decide) (by decide)⟩
  · exact retOut X1 hx Bd.returns rfl (Or.inr (Or.inr (Or.inr (Or.inr ⟨rfl, rfl, rfl⟩)))) (hb hby d13_25) hr
  · show Q13 Z u_LESS h0 n0 _ T1.heap _
    rw [e1]
    exact ⟨rfl, N0, rfl⟩
theorem d14_0 : decode prog_4_method_10_code 0 = .ok (.aload_n 0, 1) := by decide +kernel
theorem d14_1 : decode prog_4_method_10_code 1 = .ok (.invokevirtual 48, 3) := by decide +kernel
theorem d14_4 : decode prog_4_method_10_code 4 = .ok (.tableswitch 40 0 5 #[50, 62, 74, 86, 98, 110], 40) := by decide +kernel
theorem d14_78 : decode prog_4_method_10_code 78 = .ok (.iload_n 1, 1) := by decide +kernel
theorem d14_79 : decode prog_4_method_10_code 79 = .ok (.ifCond .ge 7, 3) := by decide +kernel
theorem d14_82 : decode prog_4_method_10_code 82 = .ok (.iconst 1, 1) := by decide +kernel
theorem d14_83 : decode prog_4_method_10_code 83 = .ok (.goto 40, 3) := by decide +kernel
theorem d14_123 : decode prog_4_method_10_code 123 = .ok (.ireturn, 1) := by decide +kernel
theorem ef_14 (m : MethodId) (u_LESS : Addr) : entryFrame m #[(.ref u_LESS), (.int (-1 : Int32))] 2 = mkF m 0 #[.val (.ref u_LESS), .val (.int (-1 : Int32))] [] := by first | (simp [entryFrame, mkF, argsToLocals, Value.category]; done) | rfl
def Q14 (Z : State) (u_LESS : Addr) (h0 : Heap) (n0 : Nat) (v : Option Value) (h : Heap) (L : List Loc) : Prop := v = some (.int (1 : Int32)) ∧ Fr n0 L ∧ h = h0
set_option maxRecDepth 65536 in
set_option maxHeartbeats 40000000 in
theorem rm14 (l : Launch) (Z : State) (a0 : Array Value) (hw : ∀ d ∈ tables_1, d.before a0 Z = true) (ws : List Jvm.Cond) (u_LESS : Addr) (h0 : Heap) (n0 : Nat) (Z0 : n0 ≤ h0.size) (Ex : Exa Z h0 u_LESS "com/example/chop/chop/model/Relation") (Fo : Fld Z h0 u_LESS "java/lang/Enum" "ordinal" "I" (.int (2 : Int32))) :
    MetFree l (⟨"com/example/chop/chop/model/Relation", "holds", "(I)Z"⟩ : MethodName) (head1 (Jvm.Cond.code (⟨"com/example/chop/chop/model/Relation", "holds", "(I)Z"⟩ : MethodName) prog_4_method_10_code 2 (some .boolean) :: ws) ({ frames := 1, cells := 0, slots := 0, locals := 12 } : Room)) (fun a U => a = #[(.ref u_LESS), (.int (-1 : Int32))] ∧ Z.Warmed39 U.vm ∧ U.heap = h0) (fun _ _ _ _ _ => True) (fun _ U o U' => ∃ v L, o = .returned v ∧ Q14 Z u_LESS h0 n0 v U'.heap L ∧ FrameEnd U o U' L ({ frames := 1, cells := 0, slots := 0, locals := 12 } : Room).cells ({ frames := 1, cells := 0, slots := 0, locals := 12 } : Room).slots) := by
  refine MetFree.of_bodySF (plainFor_of_name pn_1) hisR ?_
  intro p e s m args below meth c s₁ Bd hml0 hP hK
  obtain ⟨rfl, hZ, hh⟩ := hP
  have hx := Bd.exec
  have hby := Bd.bytes
  have hml : c.maxLocals = 2 := hml0
  have hown : s.vm.findClass "com/example/chop/chop/model/Relation" = some m.cls := findClass_of_methodNamed Bd.named
  have hnm := (name_of_methodNamed Bd.named Bd.method).1
  have X0 : Stand p l e ({ frames := 1, cells := 0, slots := 0, locals := 12 } : Room) s m #[(.ref u_LESS), (.int (-1 : Int32))] below meth c s₁ [] 0 0 := Stand.of_body Bd
  have e0 : s₁.heap = h0 := by rw [← hh, Bd.state]; rfl
  have N0 := Fr.nil n0
  have pre0 : ∀ t, Steps p.tables e below (s₁.setTop (mkF m 0 #[.val (.ref u_LESS), .val (.int (-1 : Int32))] [])) t → Steps p.tables e below (s₁.setTop (entryFrame m #[(.ref u_LESS), (.int (-1 : Int32))] 2)) t := fun t k => castTop (ef_14 m u_LESS) k
  obtain ⟨cq1, kq1, q1a, q1b, q1c⟩ := isOf hZ e0 Ex
  obtain ⟨_, _, ⟨T1, L1, k1, n1⟩, -, X1, ⟨Lc1, hQ1, l1, y1, z1⟩, st1⟩ := X0.virtualBackUp hx (x := (⟨"com/example/chop/chop/model/Relation", "ordinal", "()I"⟩ : MethodName)) (y := (⟨"java/lang/Enum", "ordinal", "()I"⟩ : MethodName)) (owner := "java/lang/Enum") hown (mvT hZ (hw _ (List.mem_of_getElem? (i := 19) rfl))) (mvT hZ (hw _ (List.mem_of_getElem? (i := 20) rfl))) (mvT hZ (hw _ (List.mem_of_getElem? (i := 21) rfl))) (by decide) (mvT hZ (hw _ (List.mem_of_getElem? (i := 23) rfl))) (mvT hZ (hw _ (List.mem_of_getElem? (i := 22) rfl))) (backOf (W := 0) (rm11 l Z a0 hw [] u_LESS h0 n0 Z0 Fo) hZ (hw _ (List.mem_of_getElem? (i := 25) rfl)) (hw _ (List.mem_of_getElem? (i := 24) rfl)) (by decide) (by decide)) q1a q1c (g := (mkF m 1 #[.val (.ref u_LESS), .val (.int (-1 : Int32))] [(.ref u_LESS)])) rfl (by rw [hml]; rfl) (Steps.refl _) (argsL := []) (rest := []) (lenOf pd_0 rfl) rfl (by show 2 * 0 + _ ≤ _; exact Nat.le_of_eq rfl) (hb hby d14_1) (fun _ _ => ⟨rfl, e0, (by decide : 0 + 0 ≤ _), (by decide : 0 + 0 ≤ _)⟩)
  dsimp only [Pt.U, Pt.locs, Pt.cells, Pt.slots] at X1 l1 y1 z1 st1 hQ1
  subst l1 y1 z1
  obtain ⟨rfl, N1q, eh1⟩ := hQ1
  have N1 := Fr.app N0 N1q
  have k2 : ∀ t, Steps p.tables e below (T1.setTop (mkF m 123 #[.val (.ref u_LESS), .val (.int (-1 : Int32))] [(.int (1 : Int32))])) t → Steps p.tables e below (s₁.setTop (entryFrame m #[(.ref u_LESS), (.int (-1 : Int32))] 2)) t := by
    intro t k
    refine pre0 t ?_
    show Steps p.tables e below (s₁.setTop (mkF m 0 #[.val (.ref u_LESS), .val (.int (-1 : Int32))] [])) _
    refine XS.aloadN X0.here hx rfl (hb hby d14_0) rfl rfl ?_
    show Steps p.tables e below (s₁.setTop (mkF m 1 #[.val (.ref u_LESS), .val (.int (-1 : Int32))] [(.ref u_LESS)])) _
    refine st1.trans ?_
    show Steps p.tables e below (T1.setTop (mkF m 4 #[.val (.ref u_LESS), .val (.int (-1 : Int32))] [(.int (2 : Int32))])) _
    refine XS.tswIn X1.here hx rfl (pc0 := 4) (pc' := 78) rfl (hb hby d14_4) rfl (by decide) rfl (by decide) (by decide) ?_
    show Steps p.tables e below (T1.setTop (mkF m 78 #[.val (.ref u_LESS), .val (.int (-1 : Int32))] [])) _
    refine XS.iloadN X1.here hx rfl (hb hby d14_78) rfl ?_
    show Steps p.tables e below (T1.setTop (mkF m 79 #[.val (.ref u_LESS), .val (.int (-1 : Int32))] [(.int (-1 : Int32))])) _
    refine XS.ifNo X1.here hx rfl (hb hby d14_79) rfl ((if0 _ _).trans (tlt (by decide : (-1 : Int32) < (0 : Int32))).2.1) ?_
    show Steps p.tables e below (T1.setTop (mkF m 82 #[.val (.ref u_LESS), .val (.int (-1 : Int32))] [])) _
    refine XS.iconst X1.here hx rfl (hb hby d14_82) ?_
    show Steps p.tables e below (T1.setTop (mkF m 83 #[.val (.ref u_LESS), .val (.int (-1 : Int32))] [(.int (1 : Int32))])) _
    refine XS.goto X1.here hx rfl (pc0 := 83) (pc' := 123) rfl (hb hby d14_83) (by decide) (by decide) ?_
    exact k
  obtain ⟨fs, hr, hrun, hended, hW, hsame⟩ := X1.leave (v := some (.int (1 : Int32))) (fun h => by rw [Bd.returns] at h; cases h)
  refine ⟨_, _, k2 _ ?_, hrun, hended, _, _, rfl, ?_, ⟨_, rfl⟩, hW, hsame.mono (by decide) (by decide)⟩
  · exact retN X1 hx (t := .boolean) Bd.returns (by simp) (hb hby d14_123) hr
  · show Q14 Z u_LESS h0 n0 _ T1.heap _
    rw [eh1]
    exact ⟨rfl, N1, rfl⟩
theorem d15_0 : decode prog_4_method_10_code 0 = .ok (.aload_n 0, 1) := by decide +kernel
theorem d15_1 : decode prog_4_method_10_code 1 = .ok (.invokevirtual 48, 3) := by decide +kernel
theorem d15_4 : decode prog_4_method_10_code 4 = .ok (.tableswitch 40 0 5 #[50, 62, 74, 86, 98, 110], 40) := by decide +kernel
theorem d15_78 : decode prog_4_method_10_code 78 = .ok (.iload_n 1, 1) := by decide +kernel
theorem d15_79 : decode prog_4_method_10_code 79 = .ok (.ifCond .ge 7, 3) := by decide +kernel
theorem d15_86 : decode prog_4_method_10_code 86 = .ok (.iconst 0, 1) := by decide +kernel
theorem d15_87 : decode prog_4_method_10_code 87 = .ok (.goto 36, 3) := by decide +kernel
theorem d15_123 : decode prog_4_method_10_code 123 = .ok (.ireturn, 1) := by decide +kernel
theorem ef_15 (m : MethodId) (u_LESS : Addr) : entryFrame m #[(.ref u_LESS), (.int (1 : Int32))] 2 = mkF m 0 #[.val (.ref u_LESS), .val (.int (1 : Int32))] [] := by first | (simp [entryFrame, mkF, argsToLocals, Value.category]; done) | rfl
def Q15 (Z : State) (u_LESS : Addr) (h0 : Heap) (n0 : Nat) (v : Option Value) (h : Heap) (L : List Loc) : Prop := v = some (.int (0 : Int32)) ∧ Fr n0 L ∧ h = h0
set_option maxRecDepth 65536 in
set_option maxHeartbeats 40000000 in
theorem rm15 (l : Launch) (Z : State) (a0 : Array Value) (hw : ∀ d ∈ tables_1, d.before a0 Z = true) (ws : List Jvm.Cond) (u_LESS : Addr) (h0 : Heap) (n0 : Nat) (Z0 : n0 ≤ h0.size) (Ex : Exa Z h0 u_LESS "com/example/chop/chop/model/Relation") (Fo : Fld Z h0 u_LESS "java/lang/Enum" "ordinal" "I" (.int (2 : Int32))) :
    MetFree l (⟨"com/example/chop/chop/model/Relation", "holds", "(I)Z"⟩ : MethodName) (head1 (Jvm.Cond.code (⟨"com/example/chop/chop/model/Relation", "holds", "(I)Z"⟩ : MethodName) prog_4_method_10_code 2 (some .boolean) :: ws) ({ frames := 1, cells := 0, slots := 0, locals := 12 } : Room)) (fun a U => a = #[(.ref u_LESS), (.int (1 : Int32))] ∧ Z.Warmed39 U.vm ∧ U.heap = h0) (fun _ _ _ _ _ => True) (fun _ U o U' => ∃ v L, o = .returned v ∧ Q15 Z u_LESS h0 n0 v U'.heap L ∧ FrameEnd U o U' L ({ frames := 1, cells := 0, slots := 0, locals := 12 } : Room).cells ({ frames := 1, cells := 0, slots := 0, locals := 12 } : Room).slots) := by
  refine MetFree.of_bodySF (plainFor_of_name pn_1) hisR ?_
  intro p e s m args below meth c s₁ Bd hml0 hP hK
  obtain ⟨rfl, hZ, hh⟩ := hP
  have hx := Bd.exec
  have hby := Bd.bytes
  have hml : c.maxLocals = 2 := hml0
  have hown : s.vm.findClass "com/example/chop/chop/model/Relation" = some m.cls := findClass_of_methodNamed Bd.named
  have hnm := (name_of_methodNamed Bd.named Bd.method).1
  have X0 : Stand p l e ({ frames := 1, cells := 0, slots := 0, locals := 12 } : Room) s m #[(.ref u_LESS), (.int (1 : Int32))] below meth c s₁ [] 0 0 := Stand.of_body Bd
  have e0 : s₁.heap = h0 := by rw [← hh, Bd.state]; rfl
  have N0 := Fr.nil n0
  have pre0 : ∀ t, Steps p.tables e below (s₁.setTop (mkF m 0 #[.val (.ref u_LESS), .val (.int (1 : Int32))] [])) t → Steps p.tables e below (s₁.setTop (entryFrame m #[(.ref u_LESS), (.int (1 : Int32))] 2)) t := fun t k => castTop (ef_15 m u_LESS) k
  obtain ⟨cq1, kq1, q1a, q1b, q1c⟩ := isOf hZ e0 Ex
  obtain ⟨_, _, ⟨T1, L1, k1, n1⟩, -, X1, ⟨Lc1, hQ1, l1, y1, z1⟩, st1⟩ := X0.virtualBackUp hx (x := (⟨"com/example/chop/chop/model/Relation", "ordinal", "()I"⟩ : MethodName)) (y := (⟨"java/lang/Enum", "ordinal", "()I"⟩ : MethodName)) (owner := "java/lang/Enum") hown (mvT hZ (hw _ (List.mem_of_getElem? (i := 19) rfl))) (mvT hZ (hw _ (List.mem_of_getElem? (i := 20) rfl))) (mvT hZ (hw _ (List.mem_of_getElem? (i := 21) rfl))) (by decide) (mvT hZ (hw _ (List.mem_of_getElem? (i := 23) rfl))) (mvT hZ (hw _ (List.mem_of_getElem? (i := 22) rfl))) (backOf (W := 0) (rm11 l Z a0 hw [] u_LESS h0 n0 Z0 Fo) hZ (hw _ (List.mem_of_getElem? (i := 25) rfl)) (hw _ (List.mem_of_getElem? (i := 24) rfl)) (by decide) (by decide)) q1a q1c (g := (mkF m 1 #[.val (.ref u_LESS), .val (.int (1 : Int32))] [(.ref u_LESS)])) rfl (by rw [hml]; rfl) (Steps.refl _) (argsL := []) (rest := []) (lenOf pd_0 rfl) rfl (by show 2 * 0 + _ ≤ _; exact Nat.le_of_eq rfl) (hb hby d15_1) (fun _ _ => ⟨rfl, e0, (by decide : 0 + 0 ≤ _), (by decide : 0 + 0 ≤ _)⟩)
  dsimp only [Pt.U, Pt.locs, Pt.cells, Pt.slots] at X1 l1 y1 z1 st1 hQ1
  subst l1 y1 z1
  obtain ⟨rfl, N1q, eh1⟩ := hQ1
  have N1 := Fr.app N0 N1q
  have k2 : ∀ t, Steps p.tables e below (T1.setTop (mkF m 123 #[.val (.ref u_LESS), .val (.int (1 : Int32))] [(.int (0 : Int32))])) t → Steps p.tables e below (s₁.setTop (entryFrame m #[(.ref u_LESS), (.int (1 : Int32))] 2)) t := by
    intro t k
    refine pre0 t ?_
    show Steps p.tables e below (s₁.setTop (mkF m 0 #[.val (.ref u_LESS), .val (.int (1 : Int32))] [])) _
    refine XS.aloadN X0.here hx rfl (hb hby d15_0) rfl rfl ?_
    show Steps p.tables e below (s₁.setTop (mkF m 1 #[.val (.ref u_LESS), .val (.int (1 : Int32))] [(.ref u_LESS)])) _
    refine st1.trans ?_
    show Steps p.tables e below (T1.setTop (mkF m 4 #[.val (.ref u_LESS), .val (.int (1 : Int32))] [(.int (2 : Int32))])) _
    refine XS.tswIn X1.here hx rfl (pc0 := 4) (pc' := 78) rfl (hb hby d15_4) rfl (by decide) rfl (by decide) (by decide) ?_
    show Steps p.tables e below (T1.setTop (mkF m 78 #[.val (.ref u_LESS), .val (.int (1 : Int32))] [])) _
    refine XS.iloadN X1.here hx rfl (hb hby d15_78) rfl ?_
    show Steps p.tables e below (T1.setTop (mkF m 79 #[.val (.ref u_LESS), .val (.int (1 : Int32))] [(.int (1 : Int32))])) _
    refine XS.ifYes X1.here hx rfl (pc0 := 79) (pc' := 86) rfl (hb hby d15_79) rfl ((if0 _ _).trans (flt (by decide : ¬ ((1 : Int32) < (0 : Int32)))).2.1) (by decide) (by decide) ?_
    show Steps p.tables e below (T1.setTop (mkF m 86 #[.val (.ref u_LESS), .val (.int (1 : Int32))] [])) _
    refine XS.iconst X1.here hx rfl (hb hby d15_86) ?_
    show Steps p.tables e below (T1.setTop (mkF m 87 #[.val (.ref u_LESS), .val (.int (1 : Int32))] [(.int (0 : Int32))])) _
    refine XS.goto X1.here hx rfl (pc0 := 87) (pc' := 123) rfl (hb hby d15_87) (by decide) (by decide) ?_
    exact k
  obtain ⟨fs, hr, hrun, hended, hW, hsame⟩ := X1.leave (v := some (.int (0 : Int32))) (fun h => by rw [Bd.returns] at h; cases h)
  refine ⟨_, _, k2 _ ?_, hrun, hended, _, _, rfl, ?_, ⟨_, rfl⟩, hW, hsame.mono (by decide) (by decide)⟩
  · exact retN X1 hx (t := .boolean) Bd.returns (by simp) (hb hby d15_123) hr
  · show Q15 Z u_LESS h0 n0 _ T1.heap _
    rw [eh1]
    exact ⟨rfl, N1, rfl⟩
theorem d16_0 : decode jdk_37_method_2_code 0 = .ok (.aload_n 0, 1) := by decide +kernel
theorem d16_1 : decode jdk_37_method_2_code 1 = .ok (.getfield 7, 3) := by decide +kernel
theorem d16_4 : decode jdk_37_method_2_code 4 = .ok (.ireturn, 1) := by decide +kernel
theorem ef_16 (m : MethodId) (a16_0 : Addr) : entryFrame m #[(.ref a16_0)] 1 = mkF m 0 #[.val (.ref a16_0)] [] := by first | (simp [entryFrame, mkF, argsToLocals, Value.category]; done) | rfl
def Q16 (Z : State) (a16_0 : Addr) (h0 : Heap) (n0 : Nat) (v : Option Value) (h : Heap) (L : List Loc) : Prop := v = some (.int (3 : Int32)) ∧ Fr n0 L ∧ h = h0
set_option maxRecDepth 65536 in
set_option maxHeartbeats 40000000 in
theorem rm16 (l : Launch) (Z : State) (a0 : Array Value) (hw : ∀ d ∈ tables_1, d.before a0 Z = true) (ws : List Jvm.Cond) (a16_0 : Addr) (h0 : Heap) (n0 : Nat) (Z0 : n0 ≤ h0.size) (Fo : Fld Z h0 a16_0 "java/lang/Enum" "ordinal" "I" (.int (3 : Int32))) :
    MetFree l (⟨"java/lang/Enum", "ordinal", "()I"⟩ : MethodName) (head1 (Jvm.Cond.code (⟨"java/lang/Enum", "ordinal", "()I"⟩ : MethodName) jdk_37_method_2_code 1 (some .int) :: ws) ({ frames := 0, cells := 0, slots := 0, locals := 0 } : Room)) (fun a U => a = #[(.ref a16_0)] ∧ Z.Warmed39 U.vm ∧ U.heap = h0) (fun _ _ _ _ _ => True) (fun _ U o U' => ∃ v L, o = .returned v ∧ Q16 Z a16_0 h0 n0 v U'.heap L ∧ FrameEnd U o U' L ({ frames := 0, cells := 0, slots := 0, locals := 0 } : Room).cells ({ frames := 0, cells := 0, slots := 0, locals := 0 } : Room).slots) := by
  refine MetFree.of_bodySF (plainFor_of_name pn_0) hisR ?_
  intro p e s m args below meth c s₁ Bd hml0 hP hK
  obtain ⟨rfl, hZ, hh⟩ := hP
  have hx := Bd.exec
  have hby := Bd.bytes
  have hml : c.maxLocals = 1 := hml0
  have hown : s.vm.findClass "java/lang/Enum" = some m.cls := findClass_of_methodNamed Bd.named
  have hnm := (name_of_methodNamed Bd.named Bd.method).1
  have X0 : Stand p l e ({ frames := 0, cells := 0, slots := 0, locals := 0 } : Room) s m #[(.ref a16_0)] below meth c s₁ [] 0 0 := Stand.of_body Bd
  have e0 : s₁.heap = h0 := by rw [← hh, Bd.state]; rfl
  have N0 := Fr.nil n0
  have pre0 : ∀ t, Steps p.tables e below (s₁.setTop (mkF m 0 #[.val (.ref a16_0)] [])) t → Steps p.tables e below (s₁.setTop (entryFrame m #[(.ref a16_0)] 1)) t := fun t k => castTop (ef_16 m a16_0) k
  obtain ⟨T1, X1, e1, st1⟩ := getF X0 hx hZ hown (host := "") (Or.inl (hw _ (List.mem_of_getElem? (i := 26) rfl))) Via.refl e0 Fo (g := (mkF m 1 #[.val (.ref a16_0)] [(.ref a16_0)])) rfl rfl (hb hby d16_1)
  have k2 : ∀ t, Steps p.tables e below (T1.setTop (mkF m 4 #[.val (.ref a16_0)] [(.int (3 : Int32))])) t → Steps p.tables e below (s₁.setTop (entryFrame m #[(.ref a16_0)] 1)) t := by
    intro t k
    refine pre0 t ?_
    show Steps p.tables e below (s₁.setTop (mkF m 0 #[.val (.ref a16_0)] [])) _
    refine XS.aloadN X0.here hx rfl (hb hby d16_0) rfl rfl ?_
    show Steps p.tables e below (s₁.setTop (mkF m 1 #[.val (.ref a16_0)] [(.ref a16_0)])) _
    refine st1 _ ?_
    exact k
  obtain ⟨fs, hr, hrun, hended, hW, hsame⟩ := X1.leave (v := some (.int (3 : Int32))) (fun h => by rw [Bd.returns] at h; cases h)
  refine ⟨_, _, k2 _ ?_, hrun, hended, _, _, rfl, ?_, ⟨_, rfl⟩, hW, hsame.mono (by decide) (by decide)⟩
  · exact retI X1 hx Bd.returns (hb hby d16_4) hr
  · show Q16 Z a16_0 h0 n0 _ T1.heap _
    rw [e1]
    exact ⟨rfl, N0, rfl⟩
theorem d17_0 : decode prog_4_method_6_code 0 = .ok (.aload_n 0, 1) := by decide +kernel
theorem d17_1 : decode prog_4_method_6_code 1 = .ok (.getstatic 3, 3) := by decide +kernel
theorem d17_4 : decode prog_4_method_6_code 4 = .ok (.if_acmp .eq 14, 3) := by decide +kernel
theorem d17_7 : decode prog_4_method_6_code 7 = .ok (.aload_n 0, 1) := by decide +kernel
theorem d17_8 : decode prog_4_method_6_code 8 = .ok (.getstatic 7, 3) := by decide +kernel
theorem d17_11 : decode prog_4_method_6_code 11 = .ok (.if_acmp .eq 7, 3) := by decide +kernel
theorem d17_14 : decode prog_4_method_6_code 14 = .ok (.iconst 1, 1) := by decide +kernel
theorem d17_15 : decode prog_4_method_6_code 15 = .ok (.goto 4, 3) := by decide +kernel
theorem d17_19 : decode prog_4_method_6_code 19 = .ok (.ireturn, 1) := by decide +kernel
theorem ef_17 (m : MethodId) (u_LESS_EQUAL : Addr) : entryFrame m #[(.ref u_LESS_EQUAL)] 1 = mkF m 0 #[.val (.ref u_LESS_EQUAL)] [] := by first | (simp [entryFrame, mkF, argsToLocals, Value.category]; done) | rfl
def Q17 (Z : State) (u_LESS_EQUAL : Addr) (u_EQUAL : Addr) (u_NOT_EQUAL : Addr) (h0 : Heap) (n0 : Nat) (v : Option Value) (h : Heap) (L : List Loc) : Prop := v = some (.int (1 : Int32)) ∧ Fr n0 L ∧ h = h0
set_option maxRecDepth 65536 in
set_option maxHeartbeats 40000000 in
theorem rm17 (l : Launch) (Z : State) (a0 : Array Value) (hw : ∀ d ∈ tables_1, d.before a0 Z = true) (ws : List Jvm.Cond) (u_LESS_EQUAL : Addr) (u_EQUAL : Addr) (u_NOT_EQUAL : Addr) (h0 : Heap) (n0 : Nat) (Z0 : n0 ≤ h0.size) (S_EQUAL : Sta Z h0 "com/example/chop/chop/model/Relation" "EQUAL" "Lcom/example/chop/chop/model/Relation;" (.ref u_EQUAL)) (S_NOT_EQUAL : Sta Z h0 "com/example/chop/chop/model/Relation" "NOT_EQUAL" "Lcom/example/chop/chop/model/Relation;" (.ref u_NOT_EQUAL)) (hne_EQUAL : u_LESS_EQUAL ≠ u_EQUAL) (hne_NOT_EQUAL : u_LESS_EQUAL ≠ u_NOT_EQUAL) :
    MetFree l (⟨"com/example/chop/chop/model/Relation", "isBound", "()Z"⟩ : MethodName) (head1 (Jvm.Cond.code (⟨"com/example/chop/chop/model/Relation", "isBound", "()Z"⟩ : MethodName) prog_4_method_6_code 1 (some .boolean) :: ws) ({ frames := 0, cells := 0, slots := 0, locals := 0 } : Room)) (fun a U => a = #[(.ref u_LESS_EQUAL)] ∧ Z.Warmed39 U.vm ∧ U.heap = h0) (fun _ _ _ _ _ => True) (fun _ U o U' => ∃ v L, o = .returned v ∧ Q17 Z u_LESS_EQUAL u_EQUAL u_NOT_EQUAL h0 n0 v U'.heap L ∧ FrameEnd U o U' L ({ frames := 0, cells := 0, slots := 0, locals := 0 } : Room).cells ({ frames := 0, cells := 0, slots := 0, locals := 0 } : Room).slots) := by
  refine MetFree.of_bodySF (plainFor_of_name pn_1) hisR ?_
  intro p e s m args below meth c s₁ Bd hml0 hP hK
  obtain ⟨rfl, hZ, hh⟩ := hP
  have hx := Bd.exec
  have hby := Bd.bytes
  have hml : c.maxLocals = 1 := hml0
  have hown : s.vm.findClass "com/example/chop/chop/model/Relation" = some m.cls := findClass_of_methodNamed Bd.named
  have hnm := (name_of_methodNamed Bd.named Bd.method).1
  have X0 : Stand p l e ({ frames := 0, cells := 0, slots := 0, locals := 0 } : Room) s m #[(.ref u_LESS_EQUAL)] below meth c s₁ [] 0 0 := Stand.of_body Bd
  have e0 : s₁.heap = h0 := by rw [← hh, Bd.state]; rfl
  have N0 := Fr.nil n0
  have pre0 : ∀ t, Steps p.tables e below (s₁.setTop (mkF m 0 #[.val (.ref u_LESS_EQUAL)] [])) t → Steps p.tables e below (s₁.setTop (entryFrame m #[(.ref u_LESS_EQUAL)] 1)) t := fun t k => castTop (ef_17 m u_LESS_EQUAL) k
  obtain ⟨T1, X1, e1, st1⟩ := getS2 X0 hx hZ hown (host := "") (Or.inl (hw _ (List.mem_of_getElem? (i := 13) rfl))) Via.refl e0 S_EQUAL (g := (mkF m 1 #[.val (.ref u_LESS_EQUAL)] [(.ref u_LESS_EQUAL)])) rfl (hb hby d17_1)
  obtain ⟨T2, X2, e2, st2⟩ := getS2 X1 hx hZ hown (host := "") (Or.inl (hw _ (List.mem_of_getElem? (i := 30) rfl))) Via.refl e1 S_NOT_EQUAL (g := (mkF m 8 #[.val (.ref u_LESS_EQUAL)] [(.ref u_LESS_EQUAL)])) rfl (hb hby d17_8)
  have k3 : ∀ t, Steps p.tables e below (T2.setTop (mkF m 19 #[.val (.ref u_LESS_EQUAL)] [(.int (1 : Int32))])) t → Steps p.tables e below (s₁.setTop (entryFrame m #[(.ref u_LESS_EQUAL)] 1)) t := by
    intro t k
    refine pre0 t ?_
    show Steps p.tables e below (s₁.setTop (mkF m 0 #[.val (.ref u_LESS_EQUAL)] [])) _
    refine XS.aloadN X0.here hx rfl (hb hby d17_0) rfl rfl ?_
    show Steps p.tables e below (s₁.setTop (mkF m 1 #[.val (.ref u_LESS_EQUAL)] [(.ref u_LESS_EQUAL)])) _
    refine st1 _ ?_
    show Steps p.tables e below (T1.setTop (mkF m 4 #[.val (.ref u_LESS_EQUAL)] [(.ref u_EQUAL), (.ref u_LESS_EQUAL)])) _
    refine Jvm.RoadKit.acmp (g := (mkF m 4 #[.val (.ref u_LESS_EQUAL)] [(.ref u_EQUAL), (.ref u_LESS_EQUAL)])) X1 hx rfl rfl rfl (pc0 := 4) (pc' := 7) (same := false) rfl (hb hby d17_4) rfl (decide_eq_false fun q => hne_EQUAL (Value.ref.inj q)) (by decide) (by decide) ?_
    show Steps p.tables e below (T1.setTop (mkF m 7 #[.val (.ref u_LESS_EQUAL)] [])) _
    refine XS.aloadN X1.here hx rfl (hb hby d17_7) rfl rfl ?_
    show Steps p.tables e below (T1.setTop (mkF m 8 #[.val (.ref u_LESS_EQUAL)] [(.ref u_LESS_EQUAL)])) _
    refine st2 _ ?_
    show Steps p.tables e below (T2.setTop (mkF m 11 #[.val (.ref u_LESS_EQUAL)] [(.ref u_NOT_EQUAL), (.ref u_LESS_EQUAL)])) _
    refine Jvm.RoadKit.acmp (g := (mkF m 11 #[.val (.ref u_LESS_EQUAL)] [(.ref u_NOT_EQUAL), (.ref u_LESS_EQUAL)])) X2 hx rfl rfl rfl (pc0 := 11) (pc' := 14) (same := false) rfl (hb hby d17_11) rfl (decide_eq_false fun q => hne_NOT_EQUAL (Value.ref.inj q)) (by decide) (by decide) ?_
    show Steps p.tables e below (T2.setTop (mkF m 14 #[.val (.ref u_LESS_EQUAL)] [])) _
    refine XS.iconst X2.here hx rfl (hb hby d17_14) ?_
    show Steps p.tables e below (T2.setTop (mkF m 15 #[.val (.ref u_LESS_EQUAL)] [(.int (1 : Int32))])) _
    refine XS.goto X2.here hx rfl (pc0 := 15) (pc' := 19) rfl (hb hby d17_15) (by decide) (by decide) ?_
    exact k
  obtain ⟨fs, hr, hrun, hended, hW, hsame⟩ := X2.leave (v := some (.int (1 : Int32))) (fun h => by rw [Bd.returns] at h; cases h)
  refine ⟨_, _, k3 _ ?_, hrun, hended, _, _, rfl, ?_, ⟨_, rfl⟩, hW, hsame.mono (by decide) (by decide)⟩
  · exact retN X2 hx (t := .boolean) Bd.returns (by simp) (hb hby d17_19) hr
  · show Q17 Z u_LESS_EQUAL u_EQUAL u_NOT_EQUAL h0 n0 _ T2.heap _
    rw [e2]
    exact ⟨rfl, N0, rfl⟩
theorem d18_0 : decode method_2_code 0 = .ok (.iload_n 0, 1) := by decide +kernel
theorem d18_1 : decode method_2_code 1 = .ok (.ifCond .ne 7, 3) := by decide +kernel
theorem d18_8 : decode method_2_code 8 = .ok (.iload_n 0, 1) := by decide +kernel
theorem d18_9 : decode method_2_code 9 = .ok (.iconst 1, 1) := by decide +kernel
theorem d18_10 : decode method_2_code 10 = .ok (.if_icmp .ne 7, 3) := by decide +kernel
theorem d18_17 : decode method_2_code 17 = .ok (.iload_n 0, 1) := by decide +kernel
theorem d18_18 : decode method_2_code 18 = .ok (.iconst 2, 1) := by decide +kernel
theorem d18_19 : decode method_2_code 19 = .ok (.if_icmp .ne 7, 3) := by decide +kernel
theorem d18_26 : decode method_2_code 26 = .ok (.iload_n 0, 1) := by decide +kernel
theorem d18_27 : decode method_2_code 27 = .ok (.iconst 3, 1) := by decide +kernel
theorem d18_28 : decode method_2_code 28 = .ok (.if_icmp .ne 7, 3) := by decide +kernel
theorem d18_31 : decode method_2_code 31 = .ok (.getstatic 19, 3) := by decide +kernel
theorem d18_34 : decode method_2_code 34 = .ok (.areturn, 1) := by decide +kernel
theorem ef_18 (m : MethodId)  : entryFrame m #[(.int (3 : Int32))] 1 = mkF m 0 #[.val (.int (3 : Int32))] [] := by first | (simp [entryFrame, mkF, argsToLocals, Value.category]; done) | rfl
def Q18 (Z : State) (u_LESS_EQUAL : Addr) (h0 : Heap) (n0 : Nat) (v : Option Value) (h : Heap) (L : List Loc) : Prop := v = some (.ref u_LESS_EQUAL) ∧ Fr n0 L ∧ h = h0
set_option maxRecDepth 65536 in
set_option maxHeartbeats 40000000 in
theorem rm18 (l : Launch) (Z : State) (a0 : Array Value) (hw : ∀ d ∈ tables_1, d.before a0 Z = true) (ws : List Jvm.Cond) (u_LESS_EQUAL : Addr) (h0 : Heap) (n0 : Nat) (Z0 : n0 ≤ h0.size) (S_LESS_EQUAL : Sta Z h0 "com/example/chop/chop/model/Relation" "LESS_EQUAL" "Lcom/example/chop/chop/model/Relation;" (.ref u_LESS_EQUAL)) :
    MetFree l (⟨"com/example/chop/chop/model/RelationIsBoundPinLaw", "pick", "(I)Lcom/example/chop/chop/model/Relation;"⟩ : MethodName) (head1 (Jvm.Cond.code (⟨"com/example/chop/chop/model/RelationIsBoundPinLaw", "pick", "(I)Lcom/example/chop/chop/model/Relation;"⟩ : MethodName) method_2_code 1 (some (.object "com/example/chop/chop/model/Relation")) :: ws) ({ frames := 0, cells := 0, slots := 0, locals := 0 } : Room)) (fun a U => a = #[(.int (3 : Int32))] ∧ Z.Warmed39 U.vm ∧ U.heap = h0) (fun _ _ _ _ _ => True) (fun _ U o U' => ∃ v L, o = .returned v ∧ Q18 Z u_LESS_EQUAL h0 n0 v U'.heap L ∧ FrameEnd U o U' L ({ frames := 0, cells := 0, slots := 0, locals := 0 } : Room).cells ({ frames := 0, cells := 0, slots := 0, locals := 0 } : Room).slots) := by
  refine MetFree.of_bodySF (plainFor_of_name pn_2) hisR ?_
  intro p e s m args below meth c s₁ Bd hml0 hP hK
  obtain ⟨rfl, hZ, hh⟩ := hP
  have hx := Bd.exec
  have hby := Bd.bytes
  have hml : c.maxLocals = 1 := hml0
  have hown : s.vm.findClass "com/example/chop/chop/model/RelationIsBoundPinLaw" = some m.cls := findClass_of_methodNamed Bd.named
  have hnm := (name_of_methodNamed Bd.named Bd.method).1
  have X0 : Stand p l e ({ frames := 0, cells := 0, slots := 0, locals := 0 } : Room) s m #[(.int (3 : Int32))] below meth c s₁ [] 0 0 := Stand.of_body Bd
  have e0 : s₁.heap = h0 := by rw [← hh, Bd.state]; rfl
  have N0 := Fr.nil n0
  have pre0 : ∀ t, Steps p.tables e below (s₁.setTop (mkF m 0 #[.val (.int (3 : Int32))] [])) t → Steps p.tables e below (s₁.setTop (entryFrame m #[(.int (3 : Int32))] 1)) t := fun t k => castTop (ef_18 m ) k
  obtain ⟨T1, X1, e1, st1⟩ := getS2 X0 hx hZ hown (host := "") (Or.inl (hw _ (List.mem_of_getElem? (i := 28) rfl))) Via.refl e0 S_LESS_EQUAL (g := (mkF m 31 #[.val (.int (3 : Int32))] [])) rfl (hb hby d18_31)
  have k2 : ∀ t, Steps p.tables e below (T1.setTop (mkF m 34 #[.val (.int (3 : Int32))] [(.ref u_LESS_EQUAL)])) t → Steps p.tables e below (s₁.setTop (entryFrame m #[(.int (3 : Int32))] 1)) t := by
    intro t k
    refine pre0 t ?_
    show Steps p.tables e below (s₁.setTop (mkF m 0 #[.val (.int (3 : Int32))] [])) _
    refine XS.iloadN X0.here hx rfl (hb hby d18_0) rfl ?_
    show Steps p.tables e below (s₁.setTop (mkF m 1 #[.val (.int (3 : Int32))] [(.int (3 : Int32))])) _
    refine XS.ifYes X0.here hx rfl (pc0 := 1) (pc' := 8) rfl (hb hby d18_1) rfl ((if0 _ _).trans (feq (by decide : ¬ ((3 : Int32) = (0 : Int32)))).2) (by decide) (by decide) ?_
    show Steps p.tables e below (s₁.setTop (mkF m 8 #[.val (.int (3 : Int32))] [])) _
    refine XS.iloadN X0.here hx rfl (hb hby d18_8) rfl ?_
    show Steps p.tables e below (s₁.setTop (mkF m 9 #[.val (.int (3 : Int32))] [(.int (3 : Int32))])) _
    refine XS.iconst X0.here hx rfl (hb hby d18_9) ?_
    show Steps p.tables e below (s₁.setTop (mkF m 10 #[.val (.int (3 : Int32))] [(.int (1 : Int32)), (.int (3 : Int32))])) _
    refine XS.icmpYes X0.here hx rfl (pc0 := 10) (pc' := 17) rfl (hb hby d18_10) rfl (feq (by decide : ¬ ((3 : Int32) = (1 : Int32)))).2 (by decide) (by decide) ?_
    show Steps p.tables e below (s₁.setTop (mkF m 17 #[.val (.int (3 : Int32))] [])) _
    refine XS.iloadN X0.here hx rfl (hb hby d18_17) rfl ?_
    show Steps p.tables e below (s₁.setTop (mkF m 18 #[.val (.int (3 : Int32))] [(.int (3 : Int32))])) _
    refine XS.iconst X0.here hx rfl (hb hby d18_18) ?_
    show Steps p.tables e below (s₁.setTop (mkF m 19 #[.val (.int (3 : Int32))] [(.int (2 : Int32)), (.int (3 : Int32))])) _
    refine XS.icmpYes X0.here hx rfl (pc0 := 19) (pc' := 26) rfl (hb hby d18_19) rfl (feq (by decide : ¬ ((3 : Int32) = (2 : Int32)))).2 (by decide) (by decide) ?_
    show Steps p.tables e below (s₁.setTop (mkF m 26 #[.val (.int (3 : Int32))] [])) _
    refine XS.iloadN X0.here hx rfl (hb hby d18_26) rfl ?_
    show Steps p.tables e below (s₁.setTop (mkF m 27 #[.val (.int (3 : Int32))] [(.int (3 : Int32))])) _
    refine XS.iconst X0.here hx rfl (hb hby d18_27) ?_
    show Steps p.tables e below (s₁.setTop (mkF m 28 #[.val (.int (3 : Int32))] [(.int (3 : Int32)), (.int (3 : Int32))])) _
    refine XS.icmpNo X0.here hx rfl (hb hby d18_28) rfl (teq (by decide : (3 : Int32) = (3 : Int32))).2 ?_
    show Steps p.tables e below (s₁.setTop (mkF m 31 #[.val (.int (3 : Int32))] [])) _
    refine st1 _ ?_
    exact k
  obtain ⟨fs, hr, hrun, hended, hW, hsame⟩ := X1.leave (v := some (.ref u_LESS_EQUAL)) (fun h => by rw [Bd.returns] at h; cases h)
  refine ⟨_, _, k2 _ ?_, hrun, hended, _, _, rfl, ?_, ⟨_, rfl⟩, hW, hsame.mono (by decide) (by decide)⟩
  · exact retOut X1 hx Bd.returns rfl (Or.inr (Or.inr (Or.inr (Or.inr ⟨rfl, rfl, rfl⟩)))) (hb hby d18_34) hr
  · show Q18 Z u_LESS_EQUAL h0 n0 _ T1.heap _
    rw [e1]
    exact ⟨rfl, N0, rfl⟩
theorem d19_0 : decode prog_4_method_10_code 0 = .ok (.aload_n 0, 1) := by decide +kernel
theorem d19_1 : decode prog_4_method_10_code 1 = .ok (.invokevirtual 48, 3) := by decide +kernel
theorem d19_4 : decode prog_4_method_10_code 4 = .ok (.tableswitch 40 0 5 #[50, 62, 74, 86, 98, 110], 40) := by decide +kernel
theorem d19_90 : decode prog_4_method_10_code 90 = .ok (.iload_n 1, 1) := by decide +kernel
theorem d19_91 : decode prog_4_method_10_code 91 = .ok (.ifCond .gt 7, 3) := by decide +kernel
theorem d19_94 : decode prog_4_method_10_code 94 = .ok (.iconst 1, 1) := by decide +kernel
theorem d19_95 : decode prog_4_method_10_code 95 = .ok (.goto 28, 3) := by decide +kernel
theorem d19_123 : decode prog_4_method_10_code 123 = .ok (.ireturn, 1) := by decide +kernel
theorem ef_19 (m : MethodId) (u_LESS_EQUAL : Addr) : entryFrame m #[(.ref u_LESS_EQUAL), (.int (-1 : Int32))] 2 = mkF m 0 #[.val (.ref u_LESS_EQUAL), .val (.int (-1 : Int32))] [] := by first | (simp [entryFrame, mkF, argsToLocals, Value.category]; done) | rfl
def Q19 (Z : State) (u_LESS_EQUAL : Addr) (h0 : Heap) (n0 : Nat) (v : Option Value) (h : Heap) (L : List Loc) : Prop := v = some (.int (1 : Int32)) ∧ Fr n0 L ∧ h = h0
set_option maxRecDepth 65536 in
set_option maxHeartbeats 40000000 in
theorem rm19 (l : Launch) (Z : State) (a0 : Array Value) (hw : ∀ d ∈ tables_1, d.before a0 Z = true) (ws : List Jvm.Cond) (u_LESS_EQUAL : Addr) (h0 : Heap) (n0 : Nat) (Z0 : n0 ≤ h0.size) (Ex : Exa Z h0 u_LESS_EQUAL "com/example/chop/chop/model/Relation") (Fo : Fld Z h0 u_LESS_EQUAL "java/lang/Enum" "ordinal" "I" (.int (3 : Int32))) :
    MetFree l (⟨"com/example/chop/chop/model/Relation", "holds", "(I)Z"⟩ : MethodName) (head1 (Jvm.Cond.code (⟨"com/example/chop/chop/model/Relation", "holds", "(I)Z"⟩ : MethodName) prog_4_method_10_code 2 (some .boolean) :: ws) ({ frames := 1, cells := 0, slots := 0, locals := 12 } : Room)) (fun a U => a = #[(.ref u_LESS_EQUAL), (.int (-1 : Int32))] ∧ Z.Warmed39 U.vm ∧ U.heap = h0) (fun _ _ _ _ _ => True) (fun _ U o U' => ∃ v L, o = .returned v ∧ Q19 Z u_LESS_EQUAL h0 n0 v U'.heap L ∧ FrameEnd U o U' L ({ frames := 1, cells := 0, slots := 0, locals := 12 } : Room).cells ({ frames := 1, cells := 0, slots := 0, locals := 12 } : Room).slots) := by
  refine MetFree.of_bodySF (plainFor_of_name pn_1) hisR ?_
  intro p e s m args below meth c s₁ Bd hml0 hP hK
  obtain ⟨rfl, hZ, hh⟩ := hP
  have hx := Bd.exec
  have hby := Bd.bytes
  have hml : c.maxLocals = 2 := hml0
  have hown : s.vm.findClass "com/example/chop/chop/model/Relation" = some m.cls := findClass_of_methodNamed Bd.named
  have hnm := (name_of_methodNamed Bd.named Bd.method).1
  have X0 : Stand p l e ({ frames := 1, cells := 0, slots := 0, locals := 12 } : Room) s m #[(.ref u_LESS_EQUAL), (.int (-1 : Int32))] below meth c s₁ [] 0 0 := Stand.of_body Bd
  have e0 : s₁.heap = h0 := by rw [← hh, Bd.state]; rfl
  have N0 := Fr.nil n0
  have pre0 : ∀ t, Steps p.tables e below (s₁.setTop (mkF m 0 #[.val (.ref u_LESS_EQUAL), .val (.int (-1 : Int32))] [])) t → Steps p.tables e below (s₁.setTop (entryFrame m #[(.ref u_LESS_EQUAL), (.int (-1 : Int32))] 2)) t := fun t k => castTop (ef_19 m u_LESS_EQUAL) k
  obtain ⟨cq1, kq1, q1a, q1b, q1c⟩ := isOf hZ e0 Ex
  obtain ⟨_, _, ⟨T1, L1, k1, n1⟩, -, X1, ⟨Lc1, hQ1, l1, y1, z1⟩, st1⟩ := X0.virtualBackUp hx (x := (⟨"com/example/chop/chop/model/Relation", "ordinal", "()I"⟩ : MethodName)) (y := (⟨"java/lang/Enum", "ordinal", "()I"⟩ : MethodName)) (owner := "java/lang/Enum") hown (mvT hZ (hw _ (List.mem_of_getElem? (i := 19) rfl))) (mvT hZ (hw _ (List.mem_of_getElem? (i := 20) rfl))) (mvT hZ (hw _ (List.mem_of_getElem? (i := 21) rfl))) (by decide) (mvT hZ (hw _ (List.mem_of_getElem? (i := 23) rfl))) (mvT hZ (hw _ (List.mem_of_getElem? (i := 22) rfl))) (backOf (W := 0) (rm16 l Z a0 hw [] u_LESS_EQUAL h0 n0 Z0 Fo) hZ (hw _ (List.mem_of_getElem? (i := 25) rfl)) (hw _ (List.mem_of_getElem? (i := 24) rfl)) (by decide) (by decide)) q1a q1c (g := (mkF m 1 #[.val (.ref u_LESS_EQUAL), .val (.int (-1 : Int32))] [(.ref u_LESS_EQUAL)])) rfl (by rw [hml]; rfl) (Steps.refl _) (argsL := []) (rest := []) (lenOf pd_0 rfl) rfl (by show 2 * 0 + _ ≤ _; exact Nat.le_of_eq rfl) (hb hby d19_1) (fun _ _ => ⟨rfl, e0, (by decide : 0 + 0 ≤ _), (by decide : 0 + 0 ≤ _)⟩)
  dsimp only [Pt.U, Pt.locs, Pt.cells, Pt.slots] at X1 l1 y1 z1 st1 hQ1
  subst l1 y1 z1
  obtain ⟨rfl, N1q, eh1⟩ := hQ1
  have N1 := Fr.app N0 N1q
  have k2 : ∀ t, Steps p.tables e below (T1.setTop (mkF m 123 #[.val (.ref u_LESS_EQUAL), .val (.int (-1 : Int32))] [(.int (1 : Int32))])) t → Steps p.tables e below (s₁.setTop (entryFrame m #[(.ref u_LESS_EQUAL), (.int (-1 : Int32))] 2)) t := by
    intro t k
    refine pre0 t ?_
    show Steps p.tables e below (s₁.setTop (mkF m 0 #[.val (.ref u_LESS_EQUAL), .val (.int (-1 : Int32))] [])) _
    refine XS.aloadN X0.here hx rfl (hb hby d19_0) rfl rfl ?_
    show Steps p.tables e below (s₁.setTop (mkF m 1 #[.val (.ref u_LESS_EQUAL), .val (.int (-1 : Int32))] [(.ref u_LESS_EQUAL)])) _
    refine st1.trans ?_
    show Steps p.tables e below (T1.setTop (mkF m 4 #[.val (.ref u_LESS_EQUAL), .val (.int (-1 : Int32))] [(.int (3 : Int32))])) _
    refine XS.tswIn X1.here hx rfl (pc0 := 4) (pc' := 90) rfl (hb hby d19_4) rfl (by decide) rfl (by decide) (by decide) ?_
    show Steps p.tables e below (T1.setTop (mkF m 90 #[.val (.ref u_LESS_EQUAL), .val (.int (-1 : Int32))] [])) _
    refine XS.iloadN X1.here hx rfl (hb hby d19_90) rfl ?_
    show Steps p.tables e below (T1.setTop (mkF m 91 #[.val (.ref u_LESS_EQUAL), .val (.int (-1 : Int32))] [(.int (-1 : Int32))])) _
    refine XS.ifNo X1.here hx rfl (hb hby d19_91) rfl ((if0 _ _).trans (flt (by decide : ¬ ((0 : Int32) < (-1 : Int32)))).2.2.1) ?_
    show Steps p.tables e below (T1.setTop (mkF m 94 #[.val (.ref u_LESS_EQUAL), .val (.int (-1 : Int32))] [])) _
    refine XS.iconst X1.here hx rfl (hb hby d19_94) ?_
    show Steps p.tables e below (T1.setTop (mkF m 95 #[.val (.ref u_LESS_EQUAL), .val (.int (-1 : Int32))] [(.int (1 : Int32))])) _
    refine XS.goto X1.here hx rfl (pc0 := 95) (pc' := 123) rfl (hb hby d19_95) (by decide) (by decide) ?_
    exact k
  obtain ⟨fs, hr, hrun, hended, hW, hsame⟩ := X1.leave (v := some (.int (1 : Int32))) (fun h => by rw [Bd.returns] at h; cases h)
  refine ⟨_, _, k2 _ ?_, hrun, hended, _, _, rfl, ?_, ⟨_, rfl⟩, hW, hsame.mono (by decide) (by decide)⟩
  · exact retN X1 hx (t := .boolean) Bd.returns (by simp) (hb hby d19_123) hr
  · show Q19 Z u_LESS_EQUAL h0 n0 _ T1.heap _
    rw [eh1]
    exact ⟨rfl, N1, rfl⟩
theorem d20_0 : decode prog_4_method_10_code 0 = .ok (.aload_n 0, 1) := by decide +kernel
theorem d20_1 : decode prog_4_method_10_code 1 = .ok (.invokevirtual 48, 3) := by decide +kernel
theorem d20_4 : decode prog_4_method_10_code 4 = .ok (.tableswitch 40 0 5 #[50, 62, 74, 86, 98, 110], 40) := by decide +kernel
theorem d20_90 : decode prog_4_method_10_code 90 = .ok (.iload_n 1, 1) := by decide +kernel
theorem d20_91 : decode prog_4_method_10_code 91 = .ok (.ifCond .gt 7, 3) := by decide +kernel
theorem d20_98 : decode prog_4_method_10_code 98 = .ok (.iconst 0, 1) := by decide +kernel
theorem d20_99 : decode prog_4_method_10_code 99 = .ok (.goto 24, 3) := by decide +kernel
theorem d20_123 : decode prog_4_method_10_code 123 = .ok (.ireturn, 1) := by decide +kernel
theorem ef_20 (m : MethodId) (u_LESS_EQUAL : Addr) : entryFrame m #[(.ref u_LESS_EQUAL), (.int (1 : Int32))] 2 = mkF m 0 #[.val (.ref u_LESS_EQUAL), .val (.int (1 : Int32))] [] := by first | (simp [entryFrame, mkF, argsToLocals, Value.category]; done) | rfl
def Q20 (Z : State) (u_LESS_EQUAL : Addr) (h0 : Heap) (n0 : Nat) (v : Option Value) (h : Heap) (L : List Loc) : Prop := v = some (.int (0 : Int32)) ∧ Fr n0 L ∧ h = h0
set_option maxRecDepth 65536 in
set_option maxHeartbeats 40000000 in
theorem rm20 (l : Launch) (Z : State) (a0 : Array Value) (hw : ∀ d ∈ tables_1, d.before a0 Z = true) (ws : List Jvm.Cond) (u_LESS_EQUAL : Addr) (h0 : Heap) (n0 : Nat) (Z0 : n0 ≤ h0.size) (Ex : Exa Z h0 u_LESS_EQUAL "com/example/chop/chop/model/Relation") (Fo : Fld Z h0 u_LESS_EQUAL "java/lang/Enum" "ordinal" "I" (.int (3 : Int32))) :
    MetFree l (⟨"com/example/chop/chop/model/Relation", "holds", "(I)Z"⟩ : MethodName) (head1 (Jvm.Cond.code (⟨"com/example/chop/chop/model/Relation", "holds", "(I)Z"⟩ : MethodName) prog_4_method_10_code 2 (some .boolean) :: ws) ({ frames := 1, cells := 0, slots := 0, locals := 12 } : Room)) (fun a U => a = #[(.ref u_LESS_EQUAL), (.int (1 : Int32))] ∧ Z.Warmed39 U.vm ∧ U.heap = h0) (fun _ _ _ _ _ => True) (fun _ U o U' => ∃ v L, o = .returned v ∧ Q20 Z u_LESS_EQUAL h0 n0 v U'.heap L ∧ FrameEnd U o U' L ({ frames := 1, cells := 0, slots := 0, locals := 12 } : Room).cells ({ frames := 1, cells := 0, slots := 0, locals := 12 } : Room).slots) := by
  refine MetFree.of_bodySF (plainFor_of_name pn_1) hisR ?_
  intro p e s m args below meth c s₁ Bd hml0 hP hK
  obtain ⟨rfl, hZ, hh⟩ := hP
  have hx := Bd.exec
  have hby := Bd.bytes
  have hml : c.maxLocals = 2 := hml0
  have hown : s.vm.findClass "com/example/chop/chop/model/Relation" = some m.cls := findClass_of_methodNamed Bd.named
  have hnm := (name_of_methodNamed Bd.named Bd.method).1
  have X0 : Stand p l e ({ frames := 1, cells := 0, slots := 0, locals := 12 } : Room) s m #[(.ref u_LESS_EQUAL), (.int (1 : Int32))] below meth c s₁ [] 0 0 := Stand.of_body Bd
  have e0 : s₁.heap = h0 := by rw [← hh, Bd.state]; rfl
  have N0 := Fr.nil n0
  have pre0 : ∀ t, Steps p.tables e below (s₁.setTop (mkF m 0 #[.val (.ref u_LESS_EQUAL), .val (.int (1 : Int32))] [])) t → Steps p.tables e below (s₁.setTop (entryFrame m #[(.ref u_LESS_EQUAL), (.int (1 : Int32))] 2)) t := fun t k => castTop (ef_20 m u_LESS_EQUAL) k
  obtain ⟨cq1, kq1, q1a, q1b, q1c⟩ := isOf hZ e0 Ex
  obtain ⟨_, _, ⟨T1, L1, k1, n1⟩, -, X1, ⟨Lc1, hQ1, l1, y1, z1⟩, st1⟩ := X0.virtualBackUp hx (x := (⟨"com/example/chop/chop/model/Relation", "ordinal", "()I"⟩ : MethodName)) (y := (⟨"java/lang/Enum", "ordinal", "()I"⟩ : MethodName)) (owner := "java/lang/Enum") hown (mvT hZ (hw _ (List.mem_of_getElem? (i := 19) rfl))) (mvT hZ (hw _ (List.mem_of_getElem? (i := 20) rfl))) (mvT hZ (hw _ (List.mem_of_getElem? (i := 21) rfl))) (by decide) (mvT hZ (hw _ (List.mem_of_getElem? (i := 23) rfl))) (mvT hZ (hw _ (List.mem_of_getElem? (i := 22) rfl))) (backOf (W := 0) (rm16 l Z a0 hw [] u_LESS_EQUAL h0 n0 Z0 Fo) hZ (hw _ (List.mem_of_getElem? (i := 25) rfl)) (hw _ (List.mem_of_getElem? (i := 24) rfl)) (by decide) (by decide)) q1a q1c (g := (mkF m 1 #[.val (.ref u_LESS_EQUAL), .val (.int (1 : Int32))] [(.ref u_LESS_EQUAL)])) rfl (by rw [hml]; rfl) (Steps.refl _) (argsL := []) (rest := []) (lenOf pd_0 rfl) rfl (by show 2 * 0 + _ ≤ _; exact Nat.le_of_eq rfl) (hb hby d20_1) (fun _ _ => ⟨rfl, e0, (by decide : 0 + 0 ≤ _), (by decide : 0 + 0 ≤ _)⟩)
  dsimp only [Pt.U, Pt.locs, Pt.cells, Pt.slots] at X1 l1 y1 z1 st1 hQ1
  subst l1 y1 z1
  obtain ⟨rfl, N1q, eh1⟩ := hQ1
  have N1 := Fr.app N0 N1q
  have k2 : ∀ t, Steps p.tables e below (T1.setTop (mkF m 123 #[.val (.ref u_LESS_EQUAL), .val (.int (1 : Int32))] [(.int (0 : Int32))])) t → Steps p.tables e below (s₁.setTop (entryFrame m #[(.ref u_LESS_EQUAL), (.int (1 : Int32))] 2)) t := by
    intro t k
    refine pre0 t ?_
    show Steps p.tables e below (s₁.setTop (mkF m 0 #[.val (.ref u_LESS_EQUAL), .val (.int (1 : Int32))] [])) _
    refine XS.aloadN X0.here hx rfl (hb hby d20_0) rfl rfl ?_
    show Steps p.tables e below (s₁.setTop (mkF m 1 #[.val (.ref u_LESS_EQUAL), .val (.int (1 : Int32))] [(.ref u_LESS_EQUAL)])) _
    refine st1.trans ?_
    show Steps p.tables e below (T1.setTop (mkF m 4 #[.val (.ref u_LESS_EQUAL), .val (.int (1 : Int32))] [(.int (3 : Int32))])) _
    refine XS.tswIn X1.here hx rfl (pc0 := 4) (pc' := 90) rfl (hb hby d20_4) rfl (by decide) rfl (by decide) (by decide) ?_
    show Steps p.tables e below (T1.setTop (mkF m 90 #[.val (.ref u_LESS_EQUAL), .val (.int (1 : Int32))] [])) _
    refine XS.iloadN X1.here hx rfl (hb hby d20_90) rfl ?_
    show Steps p.tables e below (T1.setTop (mkF m 91 #[.val (.ref u_LESS_EQUAL), .val (.int (1 : Int32))] [(.int (1 : Int32))])) _
    refine XS.ifYes X1.here hx rfl (pc0 := 91) (pc' := 98) rfl (hb hby d20_91) rfl ((if0 _ _).trans (tlt (by decide : (0 : Int32) < (1 : Int32))).2.2.1) (by decide) (by decide) ?_
    show Steps p.tables e below (T1.setTop (mkF m 98 #[.val (.ref u_LESS_EQUAL), .val (.int (1 : Int32))] [])) _
    refine XS.iconst X1.here hx rfl (hb hby d20_98) ?_
    show Steps p.tables e below (T1.setTop (mkF m 99 #[.val (.ref u_LESS_EQUAL), .val (.int (1 : Int32))] [(.int (0 : Int32))])) _
    refine XS.goto X1.here hx rfl (pc0 := 99) (pc' := 123) rfl (hb hby d20_99) (by decide) (by decide) ?_
    exact k
  obtain ⟨fs, hr, hrun, hended, hW, hsame⟩ := X1.leave (v := some (.int (0 : Int32))) (fun h => by rw [Bd.returns] at h; cases h)
  refine ⟨_, _, k2 _ ?_, hrun, hended, _, _, rfl, ?_, ⟨_, rfl⟩, hW, hsame.mono (by decide) (by decide)⟩
  · exact retN X1 hx (t := .boolean) Bd.returns (by simp) (hb hby d20_123) hr
  · show Q20 Z u_LESS_EQUAL h0 n0 _ T1.heap _
    rw [eh1]
    exact ⟨rfl, N1, rfl⟩
theorem d21_0 : decode jdk_37_method_2_code 0 = .ok (.aload_n 0, 1) := by decide +kernel
theorem d21_1 : decode jdk_37_method_2_code 1 = .ok (.getfield 7, 3) := by decide +kernel
theorem d21_4 : decode jdk_37_method_2_code 4 = .ok (.ireturn, 1) := by decide +kernel
theorem ef_21 (m : MethodId) (a21_0 : Addr) : entryFrame m #[(.ref a21_0)] 1 = mkF m 0 #[.val (.ref a21_0)] [] := by first | (simp [entryFrame, mkF, argsToLocals, Value.category]; done) | rfl
def Q21 (Z : State) (a21_0 : Addr) (h0 : Heap) (n0 : Nat) (v : Option Value) (h : Heap) (L : List Loc) : Prop := v = some (.int (4 : Int32)) ∧ Fr n0 L ∧ h = h0
set_option maxRecDepth 65536 in
set_option maxHeartbeats 40000000 in
theorem rm21 (l : Launch) (Z : State) (a0 : Array Value) (hw : ∀ d ∈ tables_1, d.before a0 Z = true) (ws : List Jvm.Cond) (a21_0 : Addr) (h0 : Heap) (n0 : Nat) (Z0 : n0 ≤ h0.size) (Fo : Fld Z h0 a21_0 "java/lang/Enum" "ordinal" "I" (.int (4 : Int32))) :
    MetFree l (⟨"java/lang/Enum", "ordinal", "()I"⟩ : MethodName) (head1 (Jvm.Cond.code (⟨"java/lang/Enum", "ordinal", "()I"⟩ : MethodName) jdk_37_method_2_code 1 (some .int) :: ws) ({ frames := 0, cells := 0, slots := 0, locals := 0 } : Room)) (fun a U => a = #[(.ref a21_0)] ∧ Z.Warmed39 U.vm ∧ U.heap = h0) (fun _ _ _ _ _ => True) (fun _ U o U' => ∃ v L, o = .returned v ∧ Q21 Z a21_0 h0 n0 v U'.heap L ∧ FrameEnd U o U' L ({ frames := 0, cells := 0, slots := 0, locals := 0 } : Room).cells ({ frames := 0, cells := 0, slots := 0, locals := 0 } : Room).slots) := by
  refine MetFree.of_bodySF (plainFor_of_name pn_0) hisR ?_
  intro p e s m args below meth c s₁ Bd hml0 hP hK
  obtain ⟨rfl, hZ, hh⟩ := hP
  have hx := Bd.exec
  have hby := Bd.bytes
  have hml : c.maxLocals = 1 := hml0
  have hown : s.vm.findClass "java/lang/Enum" = some m.cls := findClass_of_methodNamed Bd.named
  have hnm := (name_of_methodNamed Bd.named Bd.method).1
  have X0 : Stand p l e ({ frames := 0, cells := 0, slots := 0, locals := 0 } : Room) s m #[(.ref a21_0)] below meth c s₁ [] 0 0 := Stand.of_body Bd
  have e0 : s₁.heap = h0 := by rw [← hh, Bd.state]; rfl
  have N0 := Fr.nil n0
  have pre0 : ∀ t, Steps p.tables e below (s₁.setTop (mkF m 0 #[.val (.ref a21_0)] [])) t → Steps p.tables e below (s₁.setTop (entryFrame m #[(.ref a21_0)] 1)) t := fun t k => castTop (ef_21 m a21_0) k
  obtain ⟨T1, X1, e1, st1⟩ := getF X0 hx hZ hown (host := "") (Or.inl (hw _ (List.mem_of_getElem? (i := 26) rfl))) Via.refl e0 Fo (g := (mkF m 1 #[.val (.ref a21_0)] [(.ref a21_0)])) rfl rfl (hb hby d21_1)
  have k2 : ∀ t, Steps p.tables e below (T1.setTop (mkF m 4 #[.val (.ref a21_0)] [(.int (4 : Int32))])) t → Steps p.tables e below (s₁.setTop (entryFrame m #[(.ref a21_0)] 1)) t := by
    intro t k
    refine pre0 t ?_
    show Steps p.tables e below (s₁.setTop (mkF m 0 #[.val (.ref a21_0)] [])) _
    refine XS.aloadN X0.here hx rfl (hb hby d21_0) rfl rfl ?_
    show Steps p.tables e below (s₁.setTop (mkF m 1 #[.val (.ref a21_0)] [(.ref a21_0)])) _
    refine st1 _ ?_
    exact k
  obtain ⟨fs, hr, hrun, hended, hW, hsame⟩ := X1.leave (v := some (.int (4 : Int32))) (fun h => by rw [Bd.returns] at h; cases h)
  refine ⟨_, _, k2 _ ?_, hrun, hended, _, _, rfl, ?_, ⟨_, rfl⟩, hW, hsame.mono (by decide) (by decide)⟩
  · exact retI X1 hx Bd.returns (hb hby d21_4) hr
  · show Q21 Z a21_0 h0 n0 _ T1.heap _
    rw [e1]
    exact ⟨rfl, N0, rfl⟩
theorem d22_0 : decode prog_4_method_6_code 0 = .ok (.aload_n 0, 1) := by decide +kernel
theorem d22_1 : decode prog_4_method_6_code 1 = .ok (.getstatic 3, 3) := by decide +kernel
theorem d22_4 : decode prog_4_method_6_code 4 = .ok (.if_acmp .eq 14, 3) := by decide +kernel
theorem d22_7 : decode prog_4_method_6_code 7 = .ok (.aload_n 0, 1) := by decide +kernel
theorem d22_8 : decode prog_4_method_6_code 8 = .ok (.getstatic 7, 3) := by decide +kernel
theorem d22_11 : decode prog_4_method_6_code 11 = .ok (.if_acmp .eq 7, 3) := by decide +kernel
theorem d22_14 : decode prog_4_method_6_code 14 = .ok (.iconst 1, 1) := by decide +kernel
theorem d22_15 : decode prog_4_method_6_code 15 = .ok (.goto 4, 3) := by decide +kernel
theorem d22_19 : decode prog_4_method_6_code 19 = .ok (.ireturn, 1) := by decide +kernel
theorem ef_22 (m : MethodId) (u_GREATER : Addr) : entryFrame m #[(.ref u_GREATER)] 1 = mkF m 0 #[.val (.ref u_GREATER)] [] := by first | (simp [entryFrame, mkF, argsToLocals, Value.category]; done) | rfl
def Q22 (Z : State) (u_GREATER : Addr) (u_EQUAL : Addr) (u_NOT_EQUAL : Addr) (h0 : Heap) (n0 : Nat) (v : Option Value) (h : Heap) (L : List Loc) : Prop := v = some (.int (1 : Int32)) ∧ Fr n0 L ∧ h = h0
set_option maxRecDepth 65536 in
set_option maxHeartbeats 40000000 in
theorem rm22 (l : Launch) (Z : State) (a0 : Array Value) (hw : ∀ d ∈ tables_1, d.before a0 Z = true) (ws : List Jvm.Cond) (u_GREATER : Addr) (u_EQUAL : Addr) (u_NOT_EQUAL : Addr) (h0 : Heap) (n0 : Nat) (Z0 : n0 ≤ h0.size) (S_EQUAL : Sta Z h0 "com/example/chop/chop/model/Relation" "EQUAL" "Lcom/example/chop/chop/model/Relation;" (.ref u_EQUAL)) (S_NOT_EQUAL : Sta Z h0 "com/example/chop/chop/model/Relation" "NOT_EQUAL" "Lcom/example/chop/chop/model/Relation;" (.ref u_NOT_EQUAL)) (hne_EQUAL : u_GREATER ≠ u_EQUAL) (hne_NOT_EQUAL : u_GREATER ≠ u_NOT_EQUAL) :
    MetFree l (⟨"com/example/chop/chop/model/Relation", "isBound", "()Z"⟩ : MethodName) (head1 (Jvm.Cond.code (⟨"com/example/chop/chop/model/Relation", "isBound", "()Z"⟩ : MethodName) prog_4_method_6_code 1 (some .boolean) :: ws) ({ frames := 0, cells := 0, slots := 0, locals := 0 } : Room)) (fun a U => a = #[(.ref u_GREATER)] ∧ Z.Warmed39 U.vm ∧ U.heap = h0) (fun _ _ _ _ _ => True) (fun _ U o U' => ∃ v L, o = .returned v ∧ Q22 Z u_GREATER u_EQUAL u_NOT_EQUAL h0 n0 v U'.heap L ∧ FrameEnd U o U' L ({ frames := 0, cells := 0, slots := 0, locals := 0 } : Room).cells ({ frames := 0, cells := 0, slots := 0, locals := 0 } : Room).slots) := by
  refine MetFree.of_bodySF (plainFor_of_name pn_1) hisR ?_
  intro p e s m args below meth c s₁ Bd hml0 hP hK
  obtain ⟨rfl, hZ, hh⟩ := hP
  have hx := Bd.exec
  have hby := Bd.bytes
  have hml : c.maxLocals = 1 := hml0
  have hown : s.vm.findClass "com/example/chop/chop/model/Relation" = some m.cls := findClass_of_methodNamed Bd.named
  have hnm := (name_of_methodNamed Bd.named Bd.method).1
  have X0 : Stand p l e ({ frames := 0, cells := 0, slots := 0, locals := 0 } : Room) s m #[(.ref u_GREATER)] below meth c s₁ [] 0 0 := Stand.of_body Bd
  have e0 : s₁.heap = h0 := by rw [← hh, Bd.state]; rfl
  have N0 := Fr.nil n0
  have pre0 : ∀ t, Steps p.tables e below (s₁.setTop (mkF m 0 #[.val (.ref u_GREATER)] [])) t → Steps p.tables e below (s₁.setTop (entryFrame m #[(.ref u_GREATER)] 1)) t := fun t k => castTop (ef_22 m u_GREATER) k
  obtain ⟨T1, X1, e1, st1⟩ := getS2 X0 hx hZ hown (host := "") (Or.inl (hw _ (List.mem_of_getElem? (i := 13) rfl))) Via.refl e0 S_EQUAL (g := (mkF m 1 #[.val (.ref u_GREATER)] [(.ref u_GREATER)])) rfl (hb hby d22_1)
  obtain ⟨T2, X2, e2, st2⟩ := getS2 X1 hx hZ hown (host := "") (Or.inl (hw _ (List.mem_of_getElem? (i := 30) rfl))) Via.refl e1 S_NOT_EQUAL (g := (mkF m 8 #[.val (.ref u_GREATER)] [(.ref u_GREATER)])) rfl (hb hby d22_8)
  have k3 : ∀ t, Steps p.tables e below (T2.setTop (mkF m 19 #[.val (.ref u_GREATER)] [(.int (1 : Int32))])) t → Steps p.tables e below (s₁.setTop (entryFrame m #[(.ref u_GREATER)] 1)) t := by
    intro t k
    refine pre0 t ?_
    show Steps p.tables e below (s₁.setTop (mkF m 0 #[.val (.ref u_GREATER)] [])) _
    refine XS.aloadN X0.here hx rfl (hb hby d22_0) rfl rfl ?_
    show Steps p.tables e below (s₁.setTop (mkF m 1 #[.val (.ref u_GREATER)] [(.ref u_GREATER)])) _
    refine st1 _ ?_
    show Steps p.tables e below (T1.setTop (mkF m 4 #[.val (.ref u_GREATER)] [(.ref u_EQUAL), (.ref u_GREATER)])) _
    refine Jvm.RoadKit.acmp (g := (mkF m 4 #[.val (.ref u_GREATER)] [(.ref u_EQUAL), (.ref u_GREATER)])) X1 hx rfl rfl rfl (pc0 := 4) (pc' := 7) (same := false) rfl (hb hby d22_4) rfl (decide_eq_false fun q => hne_EQUAL (Value.ref.inj q)) (by decide) (by decide) ?_
    show Steps p.tables e below (T1.setTop (mkF m 7 #[.val (.ref u_GREATER)] [])) _
    refine XS.aloadN X1.here hx rfl (hb hby d22_7) rfl rfl ?_
    show Steps p.tables e below (T1.setTop (mkF m 8 #[.val (.ref u_GREATER)] [(.ref u_GREATER)])) _
    refine st2 _ ?_
    show Steps p.tables e below (T2.setTop (mkF m 11 #[.val (.ref u_GREATER)] [(.ref u_NOT_EQUAL), (.ref u_GREATER)])) _
    refine Jvm.RoadKit.acmp (g := (mkF m 11 #[.val (.ref u_GREATER)] [(.ref u_NOT_EQUAL), (.ref u_GREATER)])) X2 hx rfl rfl rfl (pc0 := 11) (pc' := 14) (same := false) rfl (hb hby d22_11) rfl (decide_eq_false fun q => hne_NOT_EQUAL (Value.ref.inj q)) (by decide) (by decide) ?_
    show Steps p.tables e below (T2.setTop (mkF m 14 #[.val (.ref u_GREATER)] [])) _
    refine XS.iconst X2.here hx rfl (hb hby d22_14) ?_
    show Steps p.tables e below (T2.setTop (mkF m 15 #[.val (.ref u_GREATER)] [(.int (1 : Int32))])) _
    refine XS.goto X2.here hx rfl (pc0 := 15) (pc' := 19) rfl (hb hby d22_15) (by decide) (by decide) ?_
    exact k
  obtain ⟨fs, hr, hrun, hended, hW, hsame⟩ := X2.leave (v := some (.int (1 : Int32))) (fun h => by rw [Bd.returns] at h; cases h)
  refine ⟨_, _, k3 _ ?_, hrun, hended, _, _, rfl, ?_, ⟨_, rfl⟩, hW, hsame.mono (by decide) (by decide)⟩
  · exact retN X2 hx (t := .boolean) Bd.returns (by simp) (hb hby d22_19) hr
  · show Q22 Z u_GREATER u_EQUAL u_NOT_EQUAL h0 n0 _ T2.heap _
    rw [e2]
    exact ⟨rfl, N0, rfl⟩
theorem d23_0 : decode method_2_code 0 = .ok (.iload_n 0, 1) := by decide +kernel
theorem d23_1 : decode method_2_code 1 = .ok (.ifCond .ne 7, 3) := by decide +kernel
theorem d23_8 : decode method_2_code 8 = .ok (.iload_n 0, 1) := by decide +kernel
theorem d23_9 : decode method_2_code 9 = .ok (.iconst 1, 1) := by decide +kernel
theorem d23_10 : decode method_2_code 10 = .ok (.if_icmp .ne 7, 3) := by decide +kernel
theorem d23_17 : decode method_2_code 17 = .ok (.iload_n 0, 1) := by decide +kernel
theorem d23_18 : decode method_2_code 18 = .ok (.iconst 2, 1) := by decide +kernel
theorem d23_19 : decode method_2_code 19 = .ok (.if_icmp .ne 7, 3) := by decide +kernel
theorem d23_26 : decode method_2_code 26 = .ok (.iload_n 0, 1) := by decide +kernel
theorem d23_27 : decode method_2_code 27 = .ok (.iconst 3, 1) := by decide +kernel
theorem d23_28 : decode method_2_code 28 = .ok (.if_icmp .ne 7, 3) := by decide +kernel
theorem d23_35 : decode method_2_code 35 = .ok (.iload_n 0, 1) := by decide +kernel
theorem d23_36 : decode method_2_code 36 = .ok (.iconst 4, 1) := by decide +kernel
theorem d23_37 : decode method_2_code 37 = .ok (.if_icmp .ne 7, 3) := by decide +kernel
theorem d23_40 : decode method_2_code 40 = .ok (.getstatic 22, 3) := by decide +kernel
theorem d23_43 : decode method_2_code 43 = .ok (.areturn, 1) := by decide +kernel
theorem ef_23 (m : MethodId)  : entryFrame m #[(.int (4 : Int32))] 1 = mkF m 0 #[.val (.int (4 : Int32))] [] := by first | (simp [entryFrame, mkF, argsToLocals, Value.category]; done) | rfl
def Q23 (Z : State) (u_GREATER : Addr) (h0 : Heap) (n0 : Nat) (v : Option Value) (h : Heap) (L : List Loc) : Prop := v = some (.ref u_GREATER) ∧ Fr n0 L ∧ h = h0
set_option maxRecDepth 65536 in
set_option maxHeartbeats 40000000 in
theorem rm23 (l : Launch) (Z : State) (a0 : Array Value) (hw : ∀ d ∈ tables_1, d.before a0 Z = true) (ws : List Jvm.Cond) (u_GREATER : Addr) (h0 : Heap) (n0 : Nat) (Z0 : n0 ≤ h0.size) (S_GREATER : Sta Z h0 "com/example/chop/chop/model/Relation" "GREATER" "Lcom/example/chop/chop/model/Relation;" (.ref u_GREATER)) :
    MetFree l (⟨"com/example/chop/chop/model/RelationIsBoundPinLaw", "pick", "(I)Lcom/example/chop/chop/model/Relation;"⟩ : MethodName) (head1 (Jvm.Cond.code (⟨"com/example/chop/chop/model/RelationIsBoundPinLaw", "pick", "(I)Lcom/example/chop/chop/model/Relation;"⟩ : MethodName) method_2_code 1 (some (.object "com/example/chop/chop/model/Relation")) :: ws) ({ frames := 0, cells := 0, slots := 0, locals := 0 } : Room)) (fun a U => a = #[(.int (4 : Int32))] ∧ Z.Warmed39 U.vm ∧ U.heap = h0) (fun _ _ _ _ _ => True) (fun _ U o U' => ∃ v L, o = .returned v ∧ Q23 Z u_GREATER h0 n0 v U'.heap L ∧ FrameEnd U o U' L ({ frames := 0, cells := 0, slots := 0, locals := 0 } : Room).cells ({ frames := 0, cells := 0, slots := 0, locals := 0 } : Room).slots) := by
  refine MetFree.of_bodySF (plainFor_of_name pn_2) hisR ?_
  intro p e s m args below meth c s₁ Bd hml0 hP hK
  obtain ⟨rfl, hZ, hh⟩ := hP
  have hx := Bd.exec
  have hby := Bd.bytes
  have hml : c.maxLocals = 1 := hml0
  have hown : s.vm.findClass "com/example/chop/chop/model/RelationIsBoundPinLaw" = some m.cls := findClass_of_methodNamed Bd.named
  have hnm := (name_of_methodNamed Bd.named Bd.method).1
  have X0 : Stand p l e ({ frames := 0, cells := 0, slots := 0, locals := 0 } : Room) s m #[(.int (4 : Int32))] below meth c s₁ [] 0 0 := Stand.of_body Bd
  have e0 : s₁.heap = h0 := by rw [← hh, Bd.state]; rfl
  have N0 := Fr.nil n0
  have pre0 : ∀ t, Steps p.tables e below (s₁.setTop (mkF m 0 #[.val (.int (4 : Int32))] [])) t → Steps p.tables e below (s₁.setTop (entryFrame m #[(.int (4 : Int32))] 1)) t := fun t k => castTop (ef_23 m ) k
  obtain ⟨T1, X1, e1, st1⟩ := getS2 X0 hx hZ hown (host := "") (Or.inl (hw _ (List.mem_of_getElem? (i := 37) rfl))) Via.refl e0 S_GREATER (g := (mkF m 40 #[.val (.int (4 : Int32))] [])) rfl (hb hby d23_40)
  have k2 : ∀ t, Steps p.tables e below (T1.setTop (mkF m 43 #[.val (.int (4 : Int32))] [(.ref u_GREATER)])) t → Steps p.tables e below (s₁.setTop (entryFrame m #[(.int (4 : Int32))] 1)) t := by
    intro t k
    refine pre0 t ?_
    show Steps p.tables e below (s₁.setTop (mkF m 0 #[.val (.int (4 : Int32))] [])) _
    refine XS.iloadN X0.here hx rfl (hb hby d23_0) rfl ?_
    show Steps p.tables e below (s₁.setTop (mkF m 1 #[.val (.int (4 : Int32))] [(.int (4 : Int32))])) _
    refine XS.ifYes X0.here hx rfl (pc0 := 1) (pc' := 8) rfl (hb hby d23_1) rfl ((if0 _ _).trans (feq (by decide : ¬ ((4 : Int32) = (0 : Int32)))).2) (by decide) (by decide) ?_
    show Steps p.tables e below (s₁.setTop (mkF m 8 #[.val (.int (4 : Int32))] [])) _
    refine XS.iloadN X0.here hx rfl (hb hby d23_8) rfl ?_
    show Steps p.tables e below (s₁.setTop (mkF m 9 #[.val (.int (4 : Int32))] [(.int (4 : Int32))])) _
    refine XS.iconst X0.here hx rfl (hb hby d23_9) ?_
    show Steps p.tables e below (s₁.setTop (mkF m 10 #[.val (.int (4 : Int32))] [(.int (1 : Int32)), (.int (4 : Int32))])) _
    refine XS.icmpYes X0.here hx rfl (pc0 := 10) (pc' := 17) rfl (hb hby d23_10) rfl (feq (by decide : ¬ ((4 : Int32) = (1 : Int32)))).2 (by decide) (by decide) ?_
    show Steps p.tables e below (s₁.setTop (mkF m 17 #[.val (.int (4 : Int32))] [])) _
    refine XS.iloadN X0.here hx rfl (hb hby d23_17) rfl ?_
    show Steps p.tables e below (s₁.setTop (mkF m 18 #[.val (.int (4 : Int32))] [(.int (4 : Int32))])) _
    refine XS.iconst X0.here hx rfl (hb hby d23_18) ?_
    show Steps p.tables e below (s₁.setTop (mkF m 19 #[.val (.int (4 : Int32))] [(.int (2 : Int32)), (.int (4 : Int32))])) _
    refine XS.icmpYes X0.here hx rfl (pc0 := 19) (pc' := 26) rfl (hb hby d23_19) rfl (feq (by decide : ¬ ((4 : Int32) = (2 : Int32)))).2 (by decide) (by decide) ?_
    show Steps p.tables e below (s₁.setTop (mkF m 26 #[.val (.int (4 : Int32))] [])) _
    refine XS.iloadN X0.here hx rfl (hb hby d23_26) rfl ?_
    show Steps p.tables e below (s₁.setTop (mkF m 27 #[.val (.int (4 : Int32))] [(.int (4 : Int32))])) _
    refine XS.iconst X0.here hx rfl (hb hby d23_27) ?_
    show Steps p.tables e below (s₁.setTop (mkF m 28 #[.val (.int (4 : Int32))] [(.int (3 : Int32)), (.int (4 : Int32))])) _
    refine XS.icmpYes X0.here hx rfl (pc0 := 28) (pc' := 35) rfl (hb hby d23_28) rfl (feq (by decide : ¬ ((4 : Int32) = (3 : Int32)))).2 (by decide) (by decide) ?_
    show Steps p.tables e below (s₁.setTop (mkF m 35 #[.val (.int (4 : Int32))] [])) _
    refine XS.iloadN X0.here hx rfl (hb hby d23_35) rfl ?_
    show Steps p.tables e below (s₁.setTop (mkF m 36 #[.val (.int (4 : Int32))] [(.int (4 : Int32))])) _
    refine XS.iconst X0.here hx rfl (hb hby d23_36) ?_
    show Steps p.tables e below (s₁.setTop (mkF m 37 #[.val (.int (4 : Int32))] [(.int (4 : Int32)), (.int (4 : Int32))])) _
    refine XS.icmpNo X0.here hx rfl (hb hby d23_37) rfl (teq (by decide : (4 : Int32) = (4 : Int32))).2 ?_
    show Steps p.tables e below (s₁.setTop (mkF m 40 #[.val (.int (4 : Int32))] [])) _
    refine st1 _ ?_
    exact k
  obtain ⟨fs, hr, hrun, hended, hW, hsame⟩ := X1.leave (v := some (.ref u_GREATER)) (fun h => by rw [Bd.returns] at h; cases h)
  refine ⟨_, _, k2 _ ?_, hrun, hended, _, _, rfl, ?_, ⟨_, rfl⟩, hW, hsame.mono (by decide) (by decide)⟩
  · exact retOut X1 hx Bd.returns rfl (Or.inr (Or.inr (Or.inr (Or.inr ⟨rfl, rfl, rfl⟩)))) (hb hby d23_43) hr
  · show Q23 Z u_GREATER h0 n0 _ T1.heap _
    rw [e1]
    exact ⟨rfl, N0, rfl⟩
theorem d24_0 : decode prog_4_method_10_code 0 = .ok (.aload_n 0, 1) := by decide +kernel
theorem d24_1 : decode prog_4_method_10_code 1 = .ok (.invokevirtual 48, 3) := by decide +kernel
theorem d24_4 : decode prog_4_method_10_code 4 = .ok (.tableswitch 40 0 5 #[50, 62, 74, 86, 98, 110], 40) := by decide +kernel
theorem d24_102 : decode prog_4_method_10_code 102 = .ok (.iload_n 1, 1) := by decide +kernel
theorem d24_103 : decode prog_4_method_10_code 103 = .ok (.ifCond .le 7, 3) := by decide +kernel
theorem d24_110 : decode prog_4_method_10_code 110 = .ok (.iconst 0, 1) := by decide +kernel
theorem d24_111 : decode prog_4_method_10_code 111 = .ok (.goto 12, 3) := by decide +kernel
theorem d24_123 : decode prog_4_method_10_code 123 = .ok (.ireturn, 1) := by decide +kernel
theorem ef_24 (m : MethodId) (u_GREATER : Addr) : entryFrame m #[(.ref u_GREATER), (.int (-1 : Int32))] 2 = mkF m 0 #[.val (.ref u_GREATER), .val (.int (-1 : Int32))] [] := by first | (simp [entryFrame, mkF, argsToLocals, Value.category]; done) | rfl
def Q24 (Z : State) (u_GREATER : Addr) (h0 : Heap) (n0 : Nat) (v : Option Value) (h : Heap) (L : List Loc) : Prop := v = some (.int (0 : Int32)) ∧ Fr n0 L ∧ h = h0
set_option maxRecDepth 65536 in
set_option maxHeartbeats 40000000 in
theorem rm24 (l : Launch) (Z : State) (a0 : Array Value) (hw : ∀ d ∈ tables_1, d.before a0 Z = true) (ws : List Jvm.Cond) (u_GREATER : Addr) (h0 : Heap) (n0 : Nat) (Z0 : n0 ≤ h0.size) (Ex : Exa Z h0 u_GREATER "com/example/chop/chop/model/Relation") (Fo : Fld Z h0 u_GREATER "java/lang/Enum" "ordinal" "I" (.int (4 : Int32))) :
    MetFree l (⟨"com/example/chop/chop/model/Relation", "holds", "(I)Z"⟩ : MethodName) (head1 (Jvm.Cond.code (⟨"com/example/chop/chop/model/Relation", "holds", "(I)Z"⟩ : MethodName) prog_4_method_10_code 2 (some .boolean) :: ws) ({ frames := 1, cells := 0, slots := 0, locals := 12 } : Room)) (fun a U => a = #[(.ref u_GREATER), (.int (-1 : Int32))] ∧ Z.Warmed39 U.vm ∧ U.heap = h0) (fun _ _ _ _ _ => True) (fun _ U o U' => ∃ v L, o = .returned v ∧ Q24 Z u_GREATER h0 n0 v U'.heap L ∧ FrameEnd U o U' L ({ frames := 1, cells := 0, slots := 0, locals := 12 } : Room).cells ({ frames := 1, cells := 0, slots := 0, locals := 12 } : Room).slots) := by
  refine MetFree.of_bodySF (plainFor_of_name pn_1) hisR ?_
  intro p e s m args below meth c s₁ Bd hml0 hP hK
  obtain ⟨rfl, hZ, hh⟩ := hP
  have hx := Bd.exec
  have hby := Bd.bytes
  have hml : c.maxLocals = 2 := hml0
  have hown : s.vm.findClass "com/example/chop/chop/model/Relation" = some m.cls := findClass_of_methodNamed Bd.named
  have hnm := (name_of_methodNamed Bd.named Bd.method).1
  have X0 : Stand p l e ({ frames := 1, cells := 0, slots := 0, locals := 12 } : Room) s m #[(.ref u_GREATER), (.int (-1 : Int32))] below meth c s₁ [] 0 0 := Stand.of_body Bd
  have e0 : s₁.heap = h0 := by rw [← hh, Bd.state]; rfl
  have N0 := Fr.nil n0
  have pre0 : ∀ t, Steps p.tables e below (s₁.setTop (mkF m 0 #[.val (.ref u_GREATER), .val (.int (-1 : Int32))] [])) t → Steps p.tables e below (s₁.setTop (entryFrame m #[(.ref u_GREATER), (.int (-1 : Int32))] 2)) t := fun t k => castTop (ef_24 m u_GREATER) k
  obtain ⟨cq1, kq1, q1a, q1b, q1c⟩ := isOf hZ e0 Ex
  obtain ⟨_, _, ⟨T1, L1, k1, n1⟩, -, X1, ⟨Lc1, hQ1, l1, y1, z1⟩, st1⟩ := X0.virtualBackUp hx (x := (⟨"com/example/chop/chop/model/Relation", "ordinal", "()I"⟩ : MethodName)) (y := (⟨"java/lang/Enum", "ordinal", "()I"⟩ : MethodName)) (owner := "java/lang/Enum") hown (mvT hZ (hw _ (List.mem_of_getElem? (i := 19) rfl))) (mvT hZ (hw _ (List.mem_of_getElem? (i := 20) rfl))) (mvT hZ (hw _ (List.mem_of_getElem? (i := 21) rfl))) (by decide) (mvT hZ (hw _ (List.mem_of_getElem? (i := 23) rfl))) (mvT hZ (hw _ (List.mem_of_getElem? (i := 22) rfl))) (backOf (W := 0) (rm21 l Z a0 hw [] u_GREATER h0 n0 Z0 Fo) hZ (hw _ (List.mem_of_getElem? (i := 25) rfl)) (hw _ (List.mem_of_getElem? (i := 24) rfl)) (by decide) (by decide)) q1a q1c (g := (mkF m 1 #[.val (.ref u_GREATER), .val (.int (-1 : Int32))] [(.ref u_GREATER)])) rfl (by rw [hml]; rfl) (Steps.refl _) (argsL := []) (rest := []) (lenOf pd_0 rfl) rfl (by show 2 * 0 + _ ≤ _; exact Nat.le_of_eq rfl) (hb hby d24_1) (fun _ _ => ⟨rfl, e0, (by decide : 0 + 0 ≤ _), (by decide : 0 + 0 ≤ _)⟩)
  dsimp only [Pt.U, Pt.locs, Pt.cells, Pt.slots] at X1 l1 y1 z1 st1 hQ1
  subst l1 y1 z1
  obtain ⟨rfl, N1q, eh1⟩ := hQ1
  have N1 := Fr.app N0 N1q
  have k2 : ∀ t, Steps p.tables e below (T1.setTop (mkF m 123 #[.val (.ref u_GREATER), .val (.int (-1 : Int32))] [(.int (0 : Int32))])) t → Steps p.tables e below (s₁.setTop (entryFrame m #[(.ref u_GREATER), (.int (-1 : Int32))] 2)) t := by
    intro t k
    refine pre0 t ?_
    show Steps p.tables e below (s₁.setTop (mkF m 0 #[.val (.ref u_GREATER), .val (.int (-1 : Int32))] [])) _
    refine XS.aloadN X0.here hx rfl (hb hby d24_0) rfl rfl ?_
    show Steps p.tables e below (s₁.setTop (mkF m 1 #[.val (.ref u_GREATER), .val (.int (-1 : Int32))] [(.ref u_GREATER)])) _
    refine st1.trans ?_
    show Steps p.tables e below (T1.setTop (mkF m 4 #[.val (.ref u_GREATER), .val (.int (-1 : Int32))] [(.int (4 : Int32))])) _
    refine XS.tswIn X1.here hx rfl (pc0 := 4) (pc' := 102) rfl (hb hby d24_4) rfl (by decide) rfl (by decide) (by decide) ?_
    show Steps p.tables e below (T1.setTop (mkF m 102 #[.val (.ref u_GREATER), .val (.int (-1 : Int32))] [])) _
    refine XS.iloadN X1.here hx rfl (hb hby d24_102) rfl ?_
    show Steps p.tables e below (T1.setTop (mkF m 103 #[.val (.ref u_GREATER), .val (.int (-1 : Int32))] [(.int (-1 : Int32))])) _
    refine XS.ifYes X1.here hx rfl (pc0 := 103) (pc' := 110) rfl (hb hby d24_103) rfl ((if0 _ _).trans (flt (by decide : ¬ ((0 : Int32) < (-1 : Int32)))).2.2.2) (by decide) (by decide) ?_
    show Steps p.tables e below (T1.setTop (mkF m 110 #[.val (.ref u_GREATER), .val (.int (-1 : Int32))] [])) _
    refine XS.iconst X1.here hx rfl (hb hby d24_110) ?_
    show Steps p.tables e below (T1.setTop (mkF m 111 #[.val (.ref u_GREATER), .val (.int (-1 : Int32))] [(.int (0 : Int32))])) _
    refine XS.goto X1.here hx rfl (pc0 := 111) (pc' := 123) rfl (hb hby d24_111) (by decide) (by decide) ?_
    exact k
  obtain ⟨fs, hr, hrun, hended, hW, hsame⟩ := X1.leave (v := some (.int (0 : Int32))) (fun h => by rw [Bd.returns] at h; cases h)
  refine ⟨_, _, k2 _ ?_, hrun, hended, _, _, rfl, ?_, ⟨_, rfl⟩, hW, hsame.mono (by decide) (by decide)⟩
  · exact retN X1 hx (t := .boolean) Bd.returns (by simp) (hb hby d24_123) hr
  · show Q24 Z u_GREATER h0 n0 _ T1.heap _
    rw [eh1]
    exact ⟨rfl, N1, rfl⟩
theorem d25_0 : decode prog_4_method_10_code 0 = .ok (.aload_n 0, 1) := by decide +kernel
theorem d25_1 : decode prog_4_method_10_code 1 = .ok (.invokevirtual 48, 3) := by decide +kernel
theorem d25_4 : decode prog_4_method_10_code 4 = .ok (.tableswitch 40 0 5 #[50, 62, 74, 86, 98, 110], 40) := by decide +kernel
theorem d25_102 : decode prog_4_method_10_code 102 = .ok (.iload_n 1, 1) := by decide +kernel
theorem d25_103 : decode prog_4_method_10_code 103 = .ok (.ifCond .le 7, 3) := by decide +kernel
theorem d25_106 : decode prog_4_method_10_code 106 = .ok (.iconst 1, 1) := by decide +kernel
theorem d25_107 : decode prog_4_method_10_code 107 = .ok (.goto 16, 3) := by decide +kernel
theorem d25_123 : decode prog_4_method_10_code 123 = .ok (.ireturn, 1) := by decide +kernel
theorem ef_25 (m : MethodId) (u_GREATER : Addr) : entryFrame m #[(.ref u_GREATER), (.int (1 : Int32))] 2 = mkF m 0 #[.val (.ref u_GREATER), .val (.int (1 : Int32))] [] := by first | (simp [entryFrame, mkF, argsToLocals, Value.category]; done) | rfl
def Q25 (Z : State) (u_GREATER : Addr) (h0 : Heap) (n0 : Nat) (v : Option Value) (h : Heap) (L : List Loc) : Prop := v = some (.int (1 : Int32)) ∧ Fr n0 L ∧ h = h0
set_option maxRecDepth 65536 in
set_option maxHeartbeats 40000000 in
theorem rm25 (l : Launch) (Z : State) (a0 : Array Value) (hw : ∀ d ∈ tables_1, d.before a0 Z = true) (ws : List Jvm.Cond) (u_GREATER : Addr) (h0 : Heap) (n0 : Nat) (Z0 : n0 ≤ h0.size) (Ex : Exa Z h0 u_GREATER "com/example/chop/chop/model/Relation") (Fo : Fld Z h0 u_GREATER "java/lang/Enum" "ordinal" "I" (.int (4 : Int32))) :
    MetFree l (⟨"com/example/chop/chop/model/Relation", "holds", "(I)Z"⟩ : MethodName) (head1 (Jvm.Cond.code (⟨"com/example/chop/chop/model/Relation", "holds", "(I)Z"⟩ : MethodName) prog_4_method_10_code 2 (some .boolean) :: ws) ({ frames := 1, cells := 0, slots := 0, locals := 12 } : Room)) (fun a U => a = #[(.ref u_GREATER), (.int (1 : Int32))] ∧ Z.Warmed39 U.vm ∧ U.heap = h0) (fun _ _ _ _ _ => True) (fun _ U o U' => ∃ v L, o = .returned v ∧ Q25 Z u_GREATER h0 n0 v U'.heap L ∧ FrameEnd U o U' L ({ frames := 1, cells := 0, slots := 0, locals := 12 } : Room).cells ({ frames := 1, cells := 0, slots := 0, locals := 12 } : Room).slots) := by
  refine MetFree.of_bodySF (plainFor_of_name pn_1) hisR ?_
  intro p e s m args below meth c s₁ Bd hml0 hP hK
  obtain ⟨rfl, hZ, hh⟩ := hP
  have hx := Bd.exec
  have hby := Bd.bytes
  have hml : c.maxLocals = 2 := hml0
  have hown : s.vm.findClass "com/example/chop/chop/model/Relation" = some m.cls := findClass_of_methodNamed Bd.named
  have hnm := (name_of_methodNamed Bd.named Bd.method).1
  have X0 : Stand p l e ({ frames := 1, cells := 0, slots := 0, locals := 12 } : Room) s m #[(.ref u_GREATER), (.int (1 : Int32))] below meth c s₁ [] 0 0 := Stand.of_body Bd
  have e0 : s₁.heap = h0 := by rw [← hh, Bd.state]; rfl
  have N0 := Fr.nil n0
  have pre0 : ∀ t, Steps p.tables e below (s₁.setTop (mkF m 0 #[.val (.ref u_GREATER), .val (.int (1 : Int32))] [])) t → Steps p.tables e below (s₁.setTop (entryFrame m #[(.ref u_GREATER), (.int (1 : Int32))] 2)) t := fun t k => castTop (ef_25 m u_GREATER) k
  obtain ⟨cq1, kq1, q1a, q1b, q1c⟩ := isOf hZ e0 Ex
  obtain ⟨_, _, ⟨T1, L1, k1, n1⟩, -, X1, ⟨Lc1, hQ1, l1, y1, z1⟩, st1⟩ := X0.virtualBackUp hx (x := (⟨"com/example/chop/chop/model/Relation", "ordinal", "()I"⟩ : MethodName)) (y := (⟨"java/lang/Enum", "ordinal", "()I"⟩ : MethodName)) (owner := "java/lang/Enum") hown (mvT hZ (hw _ (List.mem_of_getElem? (i := 19) rfl))) (mvT hZ (hw _ (List.mem_of_getElem? (i := 20) rfl))) (mvT hZ (hw _ (List.mem_of_getElem? (i := 21) rfl))) (by decide) (mvT hZ (hw _ (List.mem_of_getElem? (i := 23) rfl))) (mvT hZ (hw _ (List.mem_of_getElem? (i := 22) rfl))) (backOf (W := 0) (rm21 l Z a0 hw [] u_GREATER h0 n0 Z0 Fo) hZ (hw _ (List.mem_of_getElem? (i := 25) rfl)) (hw _ (List.mem_of_getElem? (i := 24) rfl)) (by decide) (by decide)) q1a q1c (g := (mkF m 1 #[.val (.ref u_GREATER), .val (.int (1 : Int32))] [(.ref u_GREATER)])) rfl (by rw [hml]; rfl) (Steps.refl _) (argsL := []) (rest := []) (lenOf pd_0 rfl) rfl (by show 2 * 0 + _ ≤ _; exact Nat.le_of_eq rfl) (hb hby d25_1) (fun _ _ => ⟨rfl, e0, (by decide : 0 + 0 ≤ _), (by decide : 0 + 0 ≤ _)⟩)
  dsimp only [Pt.U, Pt.locs, Pt.cells, Pt.slots] at X1 l1 y1 z1 st1 hQ1
  subst l1 y1 z1
  obtain ⟨rfl, N1q, eh1⟩ := hQ1
  have N1 := Fr.app N0 N1q
  have k2 : ∀ t, Steps p.tables e below (T1.setTop (mkF m 123 #[.val (.ref u_GREATER), .val (.int (1 : Int32))] [(.int (1 : Int32))])) t → Steps p.tables e below (s₁.setTop (entryFrame m #[(.ref u_GREATER), (.int (1 : Int32))] 2)) t := by
    intro t k
    refine pre0 t ?_
    show Steps p.tables e below (s₁.setTop (mkF m 0 #[.val (.ref u_GREATER), .val (.int (1 : Int32))] [])) _
    refine XS.aloadN X0.here hx rfl (hb hby d25_0) rfl rfl ?_
    show Steps p.tables e below (s₁.setTop (mkF m 1 #[.val (.ref u_GREATER), .val (.int (1 : Int32))] [(.ref u_GREATER)])) _
    refine st1.trans ?_
    show Steps p.tables e below (T1.setTop (mkF m 4 #[.val (.ref u_GREATER), .val (.int (1 : Int32))] [(.int (4 : Int32))])) _
    refine XS.tswIn X1.here hx rfl (pc0 := 4) (pc' := 102) rfl (hb hby d25_4) rfl (by decide) rfl (by decide) (by decide) ?_
    show Steps p.tables e below (T1.setTop (mkF m 102 #[.val (.ref u_GREATER), .val (.int (1 : Int32))] [])) _
    refine XS.iloadN X1.here hx rfl (hb hby d25_102) rfl ?_
    show Steps p.tables e below (T1.setTop (mkF m 103 #[.val (.ref u_GREATER), .val (.int (1 : Int32))] [(.int (1 : Int32))])) _
    refine XS.ifNo X1.here hx rfl (hb hby d25_103) rfl ((if0 _ _).trans (tlt (by decide : (0 : Int32) < (1 : Int32))).2.2.2) ?_
    show Steps p.tables e below (T1.setTop (mkF m 106 #[.val (.ref u_GREATER), .val (.int (1 : Int32))] [])) _
    refine XS.iconst X1.here hx rfl (hb hby d25_106) ?_
    show Steps p.tables e below (T1.setTop (mkF m 107 #[.val (.ref u_GREATER), .val (.int (1 : Int32))] [(.int (1 : Int32))])) _
    refine XS.goto X1.here hx rfl (pc0 := 107) (pc' := 123) rfl (hb hby d25_107) (by decide) (by decide) ?_
    exact k
  obtain ⟨fs, hr, hrun, hended, hW, hsame⟩ := X1.leave (v := some (.int (1 : Int32))) (fun h => by rw [Bd.returns] at h; cases h)
  refine ⟨_, _, k2 _ ?_, hrun, hended, _, _, rfl, ?_, ⟨_, rfl⟩, hW, hsame.mono (by decide) (by decide)⟩
  · exact retN X1 hx (t := .boolean) Bd.returns (by simp) (hb hby d25_123) hr
  · show Q25 Z u_GREATER h0 n0 _ T1.heap _
    rw [eh1]
    exact ⟨rfl, N1, rfl⟩
theorem d26_0 : decode jdk_37_method_2_code 0 = .ok (.aload_n 0, 1) := by decide +kernel
theorem d26_1 : decode jdk_37_method_2_code 1 = .ok (.getfield 7, 3) := by decide +kernel
theorem d26_4 : decode jdk_37_method_2_code 4 = .ok (.ireturn, 1) := by decide +kernel
theorem ef_26 (m : MethodId) (a26_0 : Addr) : entryFrame m #[(.ref a26_0)] 1 = mkF m 0 #[.val (.ref a26_0)] [] := by first | (simp [entryFrame, mkF, argsToLocals, Value.category]; done) | rfl
def Q26 (Z : State) (a26_0 : Addr) (h0 : Heap) (n0 : Nat) (v : Option Value) (h : Heap) (L : List Loc) : Prop := v = some (.int (5 : Int32)) ∧ Fr n0 L ∧ h = h0
set_option maxRecDepth 65536 in
set_option maxHeartbeats 40000000 in
theorem rm26 (l : Launch) (Z : State) (a0 : Array Value) (hw : ∀ d ∈ tables_1, d.before a0 Z = true) (ws : List Jvm.Cond) (a26_0 : Addr) (h0 : Heap) (n0 : Nat) (Z0 : n0 ≤ h0.size) (Fo : Fld Z h0 a26_0 "java/lang/Enum" "ordinal" "I" (.int (5 : Int32))) :
    MetFree l (⟨"java/lang/Enum", "ordinal", "()I"⟩ : MethodName) (head1 (Jvm.Cond.code (⟨"java/lang/Enum", "ordinal", "()I"⟩ : MethodName) jdk_37_method_2_code 1 (some .int) :: ws) ({ frames := 0, cells := 0, slots := 0, locals := 0 } : Room)) (fun a U => a = #[(.ref a26_0)] ∧ Z.Warmed39 U.vm ∧ U.heap = h0) (fun _ _ _ _ _ => True) (fun _ U o U' => ∃ v L, o = .returned v ∧ Q26 Z a26_0 h0 n0 v U'.heap L ∧ FrameEnd U o U' L ({ frames := 0, cells := 0, slots := 0, locals := 0 } : Room).cells ({ frames := 0, cells := 0, slots := 0, locals := 0 } : Room).slots) := by
  refine MetFree.of_bodySF (plainFor_of_name pn_0) hisR ?_
  intro p e s m args below meth c s₁ Bd hml0 hP hK
  obtain ⟨rfl, hZ, hh⟩ := hP
  have hx := Bd.exec
  have hby := Bd.bytes
  have hml : c.maxLocals = 1 := hml0
  have hown : s.vm.findClass "java/lang/Enum" = some m.cls := findClass_of_methodNamed Bd.named
  have hnm := (name_of_methodNamed Bd.named Bd.method).1
  have X0 : Stand p l e ({ frames := 0, cells := 0, slots := 0, locals := 0 } : Room) s m #[(.ref a26_0)] below meth c s₁ [] 0 0 := Stand.of_body Bd
  have e0 : s₁.heap = h0 := by rw [← hh, Bd.state]; rfl
  have N0 := Fr.nil n0
  have pre0 : ∀ t, Steps p.tables e below (s₁.setTop (mkF m 0 #[.val (.ref a26_0)] [])) t → Steps p.tables e below (s₁.setTop (entryFrame m #[(.ref a26_0)] 1)) t := fun t k => castTop (ef_26 m a26_0) k
  obtain ⟨T1, X1, e1, st1⟩ := getF X0 hx hZ hown (host := "") (Or.inl (hw _ (List.mem_of_getElem? (i := 26) rfl))) Via.refl e0 Fo (g := (mkF m 1 #[.val (.ref a26_0)] [(.ref a26_0)])) rfl rfl (hb hby d26_1)
  have k2 : ∀ t, Steps p.tables e below (T1.setTop (mkF m 4 #[.val (.ref a26_0)] [(.int (5 : Int32))])) t → Steps p.tables e below (s₁.setTop (entryFrame m #[(.ref a26_0)] 1)) t := by
    intro t k
    refine pre0 t ?_
    show Steps p.tables e below (s₁.setTop (mkF m 0 #[.val (.ref a26_0)] [])) _
    refine XS.aloadN X0.here hx rfl (hb hby d26_0) rfl rfl ?_
    show Steps p.tables e below (s₁.setTop (mkF m 1 #[.val (.ref a26_0)] [(.ref a26_0)])) _
    refine st1 _ ?_
    exact k
  obtain ⟨fs, hr, hrun, hended, hW, hsame⟩ := X1.leave (v := some (.int (5 : Int32))) (fun h => by rw [Bd.returns] at h; cases h)
  refine ⟨_, _, k2 _ ?_, hrun, hended, _, _, rfl, ?_, ⟨_, rfl⟩, hW, hsame.mono (by decide) (by decide)⟩
  · exact retI X1 hx Bd.returns (hb hby d26_4) hr
  · show Q26 Z a26_0 h0 n0 _ T1.heap _
    rw [e1]
    exact ⟨rfl, N0, rfl⟩
theorem d27_0 : decode prog_4_method_6_code 0 = .ok (.aload_n 0, 1) := by decide +kernel
theorem d27_1 : decode prog_4_method_6_code 1 = .ok (.getstatic 3, 3) := by decide +kernel
theorem d27_4 : decode prog_4_method_6_code 4 = .ok (.if_acmp .eq 14, 3) := by decide +kernel
theorem d27_7 : decode prog_4_method_6_code 7 = .ok (.aload_n 0, 1) := by decide +kernel
theorem d27_8 : decode prog_4_method_6_code 8 = .ok (.getstatic 7, 3) := by decide +kernel
theorem d27_11 : decode prog_4_method_6_code 11 = .ok (.if_acmp .eq 7, 3) := by decide +kernel
theorem d27_14 : decode prog_4_method_6_code 14 = .ok (.iconst 1, 1) := by decide +kernel
theorem d27_15 : decode prog_4_method_6_code 15 = .ok (.goto 4, 3) := by decide +kernel
theorem d27_19 : decode prog_4_method_6_code 19 = .ok (.ireturn, 1) := by decide +kernel
theorem ef_27 (m : MethodId) (u_GREATER_EQUAL : Addr) : entryFrame m #[(.ref u_GREATER_EQUAL)] 1 = mkF m 0 #[.val (.ref u_GREATER_EQUAL)] [] := by first | (simp [entryFrame, mkF, argsToLocals, Value.category]; done) | rfl
def Q27 (Z : State) (u_GREATER_EQUAL : Addr) (u_EQUAL : Addr) (u_NOT_EQUAL : Addr) (h0 : Heap) (n0 : Nat) (v : Option Value) (h : Heap) (L : List Loc) : Prop := v = some (.int (1 : Int32)) ∧ Fr n0 L ∧ h = h0
set_option maxRecDepth 65536 in
set_option maxHeartbeats 40000000 in
theorem rm27 (l : Launch) (Z : State) (a0 : Array Value) (hw : ∀ d ∈ tables_1, d.before a0 Z = true) (ws : List Jvm.Cond) (u_GREATER_EQUAL : Addr) (u_EQUAL : Addr) (u_NOT_EQUAL : Addr) (h0 : Heap) (n0 : Nat) (Z0 : n0 ≤ h0.size) (S_EQUAL : Sta Z h0 "com/example/chop/chop/model/Relation" "EQUAL" "Lcom/example/chop/chop/model/Relation;" (.ref u_EQUAL)) (S_NOT_EQUAL : Sta Z h0 "com/example/chop/chop/model/Relation" "NOT_EQUAL" "Lcom/example/chop/chop/model/Relation;" (.ref u_NOT_EQUAL)) (hne_EQUAL : u_GREATER_EQUAL ≠ u_EQUAL) (hne_NOT_EQUAL : u_GREATER_EQUAL ≠ u_NOT_EQUAL) :
    MetFree l (⟨"com/example/chop/chop/model/Relation", "isBound", "()Z"⟩ : MethodName) (head1 (Jvm.Cond.code (⟨"com/example/chop/chop/model/Relation", "isBound", "()Z"⟩ : MethodName) prog_4_method_6_code 1 (some .boolean) :: ws) ({ frames := 0, cells := 0, slots := 0, locals := 0 } : Room)) (fun a U => a = #[(.ref u_GREATER_EQUAL)] ∧ Z.Warmed39 U.vm ∧ U.heap = h0) (fun _ _ _ _ _ => True) (fun _ U o U' => ∃ v L, o = .returned v ∧ Q27 Z u_GREATER_EQUAL u_EQUAL u_NOT_EQUAL h0 n0 v U'.heap L ∧ FrameEnd U o U' L ({ frames := 0, cells := 0, slots := 0, locals := 0 } : Room).cells ({ frames := 0, cells := 0, slots := 0, locals := 0 } : Room).slots) := by
  refine MetFree.of_bodySF (plainFor_of_name pn_1) hisR ?_
  intro p e s m args below meth c s₁ Bd hml0 hP hK
  obtain ⟨rfl, hZ, hh⟩ := hP
  have hx := Bd.exec
  have hby := Bd.bytes
  have hml : c.maxLocals = 1 := hml0
  have hown : s.vm.findClass "com/example/chop/chop/model/Relation" = some m.cls := findClass_of_methodNamed Bd.named
  have hnm := (name_of_methodNamed Bd.named Bd.method).1
  have X0 : Stand p l e ({ frames := 0, cells := 0, slots := 0, locals := 0 } : Room) s m #[(.ref u_GREATER_EQUAL)] below meth c s₁ [] 0 0 := Stand.of_body Bd
  have e0 : s₁.heap = h0 := by rw [← hh, Bd.state]; rfl
  have N0 := Fr.nil n0
  have pre0 : ∀ t, Steps p.tables e below (s₁.setTop (mkF m 0 #[.val (.ref u_GREATER_EQUAL)] [])) t → Steps p.tables e below (s₁.setTop (entryFrame m #[(.ref u_GREATER_EQUAL)] 1)) t := fun t k => castTop (ef_27 m u_GREATER_EQUAL) k
  obtain ⟨T1, X1, e1, st1⟩ := getS2 X0 hx hZ hown (host := "") (Or.inl (hw _ (List.mem_of_getElem? (i := 13) rfl))) Via.refl e0 S_EQUAL (g := (mkF m 1 #[.val (.ref u_GREATER_EQUAL)] [(.ref u_GREATER_EQUAL)])) rfl (hb hby d27_1)
  obtain ⟨T2, X2, e2, st2⟩ := getS2 X1 hx hZ hown (host := "") (Or.inl (hw _ (List.mem_of_getElem? (i := 30) rfl))) Via.refl e1 S_NOT_EQUAL (g := (mkF m 8 #[.val (.ref u_GREATER_EQUAL)] [(.ref u_GREATER_EQUAL)])) rfl (hb hby d27_8)
  have k3 : ∀ t, Steps p.tables e below (T2.setTop (mkF m 19 #[.val (.ref u_GREATER_EQUAL)] [(.int (1 : Int32))])) t → Steps p.tables e below (s₁.setTop (entryFrame m #[(.ref u_GREATER_EQUAL)] 1)) t := by
    intro t k
    refine pre0 t ?_
    show Steps p.tables e below (s₁.setTop (mkF m 0 #[.val (.ref u_GREATER_EQUAL)] [])) _
    refine XS.aloadN X0.here hx rfl (hb hby d27_0) rfl rfl ?_
    show Steps p.tables e below (s₁.setTop (mkF m 1 #[.val (.ref u_GREATER_EQUAL)] [(.ref u_GREATER_EQUAL)])) _
    refine st1 _ ?_
    show Steps p.tables e below (T1.setTop (mkF m 4 #[.val (.ref u_GREATER_EQUAL)] [(.ref u_EQUAL), (.ref u_GREATER_EQUAL)])) _
    refine Jvm.RoadKit.acmp (g := (mkF m 4 #[.val (.ref u_GREATER_EQUAL)] [(.ref u_EQUAL), (.ref u_GREATER_EQUAL)])) X1 hx rfl rfl rfl (pc0 := 4) (pc' := 7) (same := false) rfl (hb hby d27_4) rfl (decide_eq_false fun q => hne_EQUAL (Value.ref.inj q)) (by decide) (by decide) ?_
    show Steps p.tables e below (T1.setTop (mkF m 7 #[.val (.ref u_GREATER_EQUAL)] [])) _
    refine XS.aloadN X1.here hx rfl (hb hby d27_7) rfl rfl ?_
    show Steps p.tables e below (T1.setTop (mkF m 8 #[.val (.ref u_GREATER_EQUAL)] [(.ref u_GREATER_EQUAL)])) _
    refine st2 _ ?_
    show Steps p.tables e below (T2.setTop (mkF m 11 #[.val (.ref u_GREATER_EQUAL)] [(.ref u_NOT_EQUAL), (.ref u_GREATER_EQUAL)])) _
    refine Jvm.RoadKit.acmp (g := (mkF m 11 #[.val (.ref u_GREATER_EQUAL)] [(.ref u_NOT_EQUAL), (.ref u_GREATER_EQUAL)])) X2 hx rfl rfl rfl (pc0 := 11) (pc' := 14) (same := false) rfl (hb hby d27_11) rfl (decide_eq_false fun q => hne_NOT_EQUAL (Value.ref.inj q)) (by decide) (by decide) ?_
    show Steps p.tables e below (T2.setTop (mkF m 14 #[.val (.ref u_GREATER_EQUAL)] [])) _
    refine XS.iconst X2.here hx rfl (hb hby d27_14) ?_
    show Steps p.tables e below (T2.setTop (mkF m 15 #[.val (.ref u_GREATER_EQUAL)] [(.int (1 : Int32))])) _
    refine XS.goto X2.here hx rfl (pc0 := 15) (pc' := 19) rfl (hb hby d27_15) (by decide) (by decide) ?_
    exact k
  obtain ⟨fs, hr, hrun, hended, hW, hsame⟩ := X2.leave (v := some (.int (1 : Int32))) (fun h => by rw [Bd.returns] at h; cases h)
  refine ⟨_, _, k3 _ ?_, hrun, hended, _, _, rfl, ?_, ⟨_, rfl⟩, hW, hsame.mono (by decide) (by decide)⟩
  · exact retN X2 hx (t := .boolean) Bd.returns (by simp) (hb hby d27_19) hr
  · show Q27 Z u_GREATER_EQUAL u_EQUAL u_NOT_EQUAL h0 n0 _ T2.heap _
    rw [e2]
    exact ⟨rfl, N0, rfl⟩
theorem d28_0 : decode method_2_code 0 = .ok (.iload_n 0, 1) := by decide +kernel
theorem d28_1 : decode method_2_code 1 = .ok (.ifCond .ne 7, 3) := by decide +kernel
theorem d28_8 : decode method_2_code 8 = .ok (.iload_n 0, 1) := by decide +kernel
theorem d28_9 : decode method_2_code 9 = .ok (.iconst 1, 1) := by decide +kernel
theorem d28_10 : decode method_2_code 10 = .ok (.if_icmp .ne 7, 3) := by decide +kernel
theorem d28_17 : decode method_2_code 17 = .ok (.iload_n 0, 1) := by decide +kernel
theorem d28_18 : decode method_2_code 18 = .ok (.iconst 2, 1) := by decide +kernel
theorem d28_19 : decode method_2_code 19 = .ok (.if_icmp .ne 7, 3) := by decide +kernel
theorem d28_26 : decode method_2_code 26 = .ok (.iload_n 0, 1) := by decide +kernel
theorem d28_27 : decode method_2_code 27 = .ok (.iconst 3, 1) := by decide +kernel
theorem d28_28 : decode method_2_code 28 = .ok (.if_icmp .ne 7, 3) := by decide +kernel
theorem d28_35 : decode method_2_code 35 = .ok (.iload_n 0, 1) := by decide +kernel
theorem d28_36 : decode method_2_code 36 = .ok (.iconst 4, 1) := by decide +kernel
theorem d28_37 : decode method_2_code 37 = .ok (.if_icmp .ne 7, 3) := by decide +kernel
theorem d28_44 : decode method_2_code 44 = .ok (.getstatic 25, 3) := by decide +kernel
theorem d28_47 : decode method_2_code 47 = .ok (.areturn, 1) := by decide +kernel
theorem ef_28 (m : MethodId)  : entryFrame m #[(.int (5 : Int32))] 1 = mkF m 0 #[.val (.int (5 : Int32))] [] := by first | (simp [entryFrame, mkF, argsToLocals, Value.category]; done) | rfl
def Q28 (Z : State) (u_GREATER_EQUAL : Addr) (h0 : Heap) (n0 : Nat) (v : Option Value) (h : Heap) (L : List Loc) : Prop := v = some (.ref u_GREATER_EQUAL) ∧ Fr n0 L ∧ h = h0
set_option maxRecDepth 65536 in
set_option maxHeartbeats 40000000 in
theorem rm28 (l : Launch) (Z : State) (a0 : Array Value) (hw : ∀ d ∈ tables_1, d.before a0 Z = true) (ws : List Jvm.Cond) (u_GREATER_EQUAL : Addr) (h0 : Heap) (n0 : Nat) (Z0 : n0 ≤ h0.size) (S_GREATER_EQUAL : Sta Z h0 "com/example/chop/chop/model/Relation" "GREATER_EQUAL" "Lcom/example/chop/chop/model/Relation;" (.ref u_GREATER_EQUAL)) :
    MetFree l (⟨"com/example/chop/chop/model/RelationIsBoundPinLaw", "pick", "(I)Lcom/example/chop/chop/model/Relation;"⟩ : MethodName) (head1 (Jvm.Cond.code (⟨"com/example/chop/chop/model/RelationIsBoundPinLaw", "pick", "(I)Lcom/example/chop/chop/model/Relation;"⟩ : MethodName) method_2_code 1 (some (.object "com/example/chop/chop/model/Relation")) :: ws) ({ frames := 0, cells := 0, slots := 0, locals := 0 } : Room)) (fun a U => a = #[(.int (5 : Int32))] ∧ Z.Warmed39 U.vm ∧ U.heap = h0) (fun _ _ _ _ _ => True) (fun _ U o U' => ∃ v L, o = .returned v ∧ Q28 Z u_GREATER_EQUAL h0 n0 v U'.heap L ∧ FrameEnd U o U' L ({ frames := 0, cells := 0, slots := 0, locals := 0 } : Room).cells ({ frames := 0, cells := 0, slots := 0, locals := 0 } : Room).slots) := by
  refine MetFree.of_bodySF (plainFor_of_name pn_2) hisR ?_
  intro p e s m args below meth c s₁ Bd hml0 hP hK
  obtain ⟨rfl, hZ, hh⟩ := hP
  have hx := Bd.exec
  have hby := Bd.bytes
  have hml : c.maxLocals = 1 := hml0
  have hown : s.vm.findClass "com/example/chop/chop/model/RelationIsBoundPinLaw" = some m.cls := findClass_of_methodNamed Bd.named
  have hnm := (name_of_methodNamed Bd.named Bd.method).1
  have X0 : Stand p l e ({ frames := 0, cells := 0, slots := 0, locals := 0 } : Room) s m #[(.int (5 : Int32))] below meth c s₁ [] 0 0 := Stand.of_body Bd
  have e0 : s₁.heap = h0 := by rw [← hh, Bd.state]; rfl
  have N0 := Fr.nil n0
  have pre0 : ∀ t, Steps p.tables e below (s₁.setTop (mkF m 0 #[.val (.int (5 : Int32))] [])) t → Steps p.tables e below (s₁.setTop (entryFrame m #[(.int (5 : Int32))] 1)) t := fun t k => castTop (ef_28 m ) k
  obtain ⟨T1, X1, e1, st1⟩ := getS2 X0 hx hZ hown (host := "") (Or.inl (hw _ (List.mem_of_getElem? (i := 35) rfl))) Via.refl e0 S_GREATER_EQUAL (g := (mkF m 44 #[.val (.int (5 : Int32))] [])) rfl (hb hby d28_44)
  have k2 : ∀ t, Steps p.tables e below (T1.setTop (mkF m 47 #[.val (.int (5 : Int32))] [(.ref u_GREATER_EQUAL)])) t → Steps p.tables e below (s₁.setTop (entryFrame m #[(.int (5 : Int32))] 1)) t := by
    intro t k
    refine pre0 t ?_
    show Steps p.tables e below (s₁.setTop (mkF m 0 #[.val (.int (5 : Int32))] [])) _
    refine XS.iloadN X0.here hx rfl (hb hby d28_0) rfl ?_
    show Steps p.tables e below (s₁.setTop (mkF m 1 #[.val (.int (5 : Int32))] [(.int (5 : Int32))])) _
    refine XS.ifYes X0.here hx rfl (pc0 := 1) (pc' := 8) rfl (hb hby d28_1) rfl ((if0 _ _).trans (feq (by decide : ¬ ((5 : Int32) = (0 : Int32)))).2) (by decide) (by decide) ?_
    show Steps p.tables e below (s₁.setTop (mkF m 8 #[.val (.int (5 : Int32))] [])) _
    refine XS.iloadN X0.here hx rfl (hb hby d28_8) rfl ?_
    show Steps p.tables e below (s₁.setTop (mkF m 9 #[.val (.int (5 : Int32))] [(.int (5 : Int32))])) _
    refine XS.iconst X0.here hx rfl (hb hby d28_9) ?_
    show Steps p.tables e below (s₁.setTop (mkF m 10 #[.val (.int (5 : Int32))] [(.int (1 : Int32)), (.int (5 : Int32))])) _
    refine XS.icmpYes X0.here hx rfl (pc0 := 10) (pc' := 17) rfl (hb hby d28_10) rfl (feq (by decide : ¬ ((5 : Int32) = (1 : Int32)))).2 (by decide) (by decide) ?_
    show Steps p.tables e below (s₁.setTop (mkF m 17 #[.val (.int (5 : Int32))] [])) _
    refine XS.iloadN X0.here hx rfl (hb hby d28_17) rfl ?_
    show Steps p.tables e below (s₁.setTop (mkF m 18 #[.val (.int (5 : Int32))] [(.int (5 : Int32))])) _
    refine XS.iconst X0.here hx rfl (hb hby d28_18) ?_
    show Steps p.tables e below (s₁.setTop (mkF m 19 #[.val (.int (5 : Int32))] [(.int (2 : Int32)), (.int (5 : Int32))])) _
    refine XS.icmpYes X0.here hx rfl (pc0 := 19) (pc' := 26) rfl (hb hby d28_19) rfl (feq (by decide : ¬ ((5 : Int32) = (2 : Int32)))).2 (by decide) (by decide) ?_
    show Steps p.tables e below (s₁.setTop (mkF m 26 #[.val (.int (5 : Int32))] [])) _
    refine XS.iloadN X0.here hx rfl (hb hby d28_26) rfl ?_
    show Steps p.tables e below (s₁.setTop (mkF m 27 #[.val (.int (5 : Int32))] [(.int (5 : Int32))])) _
    refine XS.iconst X0.here hx rfl (hb hby d28_27) ?_
    show Steps p.tables e below (s₁.setTop (mkF m 28 #[.val (.int (5 : Int32))] [(.int (3 : Int32)), (.int (5 : Int32))])) _
    refine XS.icmpYes X0.here hx rfl (pc0 := 28) (pc' := 35) rfl (hb hby d28_28) rfl (feq (by decide : ¬ ((5 : Int32) = (3 : Int32)))).2 (by decide) (by decide) ?_
    show Steps p.tables e below (s₁.setTop (mkF m 35 #[.val (.int (5 : Int32))] [])) _
    refine XS.iloadN X0.here hx rfl (hb hby d28_35) rfl ?_
    show Steps p.tables e below (s₁.setTop (mkF m 36 #[.val (.int (5 : Int32))] [(.int (5 : Int32))])) _
    refine XS.iconst X0.here hx rfl (hb hby d28_36) ?_
    show Steps p.tables e below (s₁.setTop (mkF m 37 #[.val (.int (5 : Int32))] [(.int (4 : Int32)), (.int (5 : Int32))])) _
    refine XS.icmpYes X0.here hx rfl (pc0 := 37) (pc' := 44) rfl (hb hby d28_37) rfl (feq (by decide : ¬ ((5 : Int32) = (4 : Int32)))).2 (by decide) (by decide) ?_
    show Steps p.tables e below (s₁.setTop (mkF m 44 #[.val (.int (5 : Int32))] [])) _
    refine st1 _ ?_
    exact k
  obtain ⟨fs, hr, hrun, hended, hW, hsame⟩ := X1.leave (v := some (.ref u_GREATER_EQUAL)) (fun h => by rw [Bd.returns] at h; cases h)
  refine ⟨_, _, k2 _ ?_, hrun, hended, _, _, rfl, ?_, ⟨_, rfl⟩, hW, hsame.mono (by decide) (by decide)⟩
  · exact retOut X1 hx Bd.returns rfl (Or.inr (Or.inr (Or.inr (Or.inr ⟨rfl, rfl, rfl⟩)))) (hb hby d28_47) hr
  · show Q28 Z u_GREATER_EQUAL h0 n0 _ T1.heap _
    rw [e1]
    exact ⟨rfl, N0, rfl⟩
theorem d29_0 : decode prog_4_method_10_code 0 = .ok (.aload_n 0, 1) := by decide +kernel
theorem d29_1 : decode prog_4_method_10_code 1 = .ok (.invokevirtual 48, 3) := by decide +kernel
theorem d29_4 : decode prog_4_method_10_code 4 = .ok (.tableswitch 40 0 5 #[50, 62, 74, 86, 98, 110], 40) := by decide +kernel
theorem d29_114 : decode prog_4_method_10_code 114 = .ok (.iload_n 1, 1) := by decide +kernel
theorem d29_115 : decode prog_4_method_10_code 115 = .ok (.ifCond .lt 7, 3) := by decide +kernel
theorem d29_122 : decode prog_4_method_10_code 122 = .ok (.iconst 0, 1) := by decide +kernel
theorem d29_123 : decode prog_4_method_10_code 123 = .ok (.ireturn, 1) := by decide +kernel
theorem ef_29 (m : MethodId) (u_GREATER_EQUAL : Addr) : entryFrame m #[(.ref u_GREATER_EQUAL), (.int (-1 : Int32))] 2 = mkF m 0 #[.val (.ref u_GREATER_EQUAL), .val (.int (-1 : Int32))] [] := by first | (simp [entryFrame, mkF, argsToLocals, Value.category]; done) | rfl
def Q29 (Z : State) (u_GREATER_EQUAL : Addr) (h0 : Heap) (n0 : Nat) (v : Option Value) (h : Heap) (L : List Loc) : Prop := v = some (.int (0 : Int32)) ∧ Fr n0 L ∧ h = h0
set_option maxRecDepth 65536 in
set_option maxHeartbeats 40000000 in
theorem rm29 (l : Launch) (Z : State) (a0 : Array Value) (hw : ∀ d ∈ tables_1, d.before a0 Z = true) (ws : List Jvm.Cond) (u_GREATER_EQUAL : Addr) (h0 : Heap) (n0 : Nat) (Z0 : n0 ≤ h0.size) (Ex : Exa Z h0 u_GREATER_EQUAL "com/example/chop/chop/model/Relation") (Fo : Fld Z h0 u_GREATER_EQUAL "java/lang/Enum" "ordinal" "I" (.int (5 : Int32))) :
    MetFree l (⟨"com/example/chop/chop/model/Relation", "holds", "(I)Z"⟩ : MethodName) (head1 (Jvm.Cond.code (⟨"com/example/chop/chop/model/Relation", "holds", "(I)Z"⟩ : MethodName) prog_4_method_10_code 2 (some .boolean) :: ws) ({ frames := 1, cells := 0, slots := 0, locals := 12 } : Room)) (fun a U => a = #[(.ref u_GREATER_EQUAL), (.int (-1 : Int32))] ∧ Z.Warmed39 U.vm ∧ U.heap = h0) (fun _ _ _ _ _ => True) (fun _ U o U' => ∃ v L, o = .returned v ∧ Q29 Z u_GREATER_EQUAL h0 n0 v U'.heap L ∧ FrameEnd U o U' L ({ frames := 1, cells := 0, slots := 0, locals := 12 } : Room).cells ({ frames := 1, cells := 0, slots := 0, locals := 12 } : Room).slots) := by
  refine MetFree.of_bodySF (plainFor_of_name pn_1) hisR ?_
  intro p e s m args below meth c s₁ Bd hml0 hP hK
  obtain ⟨rfl, hZ, hh⟩ := hP
  have hx := Bd.exec
  have hby := Bd.bytes
  have hml : c.maxLocals = 2 := hml0
  have hown : s.vm.findClass "com/example/chop/chop/model/Relation" = some m.cls := findClass_of_methodNamed Bd.named
  have hnm := (name_of_methodNamed Bd.named Bd.method).1
  have X0 : Stand p l e ({ frames := 1, cells := 0, slots := 0, locals := 12 } : Room) s m #[(.ref u_GREATER_EQUAL), (.int (-1 : Int32))] below meth c s₁ [] 0 0 := Stand.of_body Bd
  have e0 : s₁.heap = h0 := by rw [← hh, Bd.state]; rfl
  have N0 := Fr.nil n0
  have pre0 : ∀ t, Steps p.tables e below (s₁.setTop (mkF m 0 #[.val (.ref u_GREATER_EQUAL), .val (.int (-1 : Int32))] [])) t → Steps p.tables e below (s₁.setTop (entryFrame m #[(.ref u_GREATER_EQUAL), (.int (-1 : Int32))] 2)) t := fun t k => castTop (ef_29 m u_GREATER_EQUAL) k
  obtain ⟨cq1, kq1, q1a, q1b, q1c⟩ := isOf hZ e0 Ex
  obtain ⟨_, _, ⟨T1, L1, k1, n1⟩, -, X1, ⟨Lc1, hQ1, l1, y1, z1⟩, st1⟩ := X0.virtualBackUp hx (x := (⟨"com/example/chop/chop/model/Relation", "ordinal", "()I"⟩ : MethodName)) (y := (⟨"java/lang/Enum", "ordinal", "()I"⟩ : MethodName)) (owner := "java/lang/Enum") hown (mvT hZ (hw _ (List.mem_of_getElem? (i := 19) rfl))) (mvT hZ (hw _ (List.mem_of_getElem? (i := 20) rfl))) (mvT hZ (hw _ (List.mem_of_getElem? (i := 21) rfl))) (by decide) (mvT hZ (hw _ (List.mem_of_getElem? (i := 23) rfl))) (mvT hZ (hw _ (List.mem_of_getElem? (i := 22) rfl))) (backOf (W := 0) (rm26 l Z a0 hw [] u_GREATER_EQUAL h0 n0 Z0 Fo) hZ (hw _ (List.mem_of_getElem? (i := 25) rfl)) (hw _ (List.mem_of_getElem? (i := 24) rfl)) (by decide) (by decide)) q1a q1c (g := (mkF m 1 #[.val (.ref u_GREATER_EQUAL), .val (.int (-1 : Int32))] [(.ref u_GREATER_EQUAL)])) rfl (by rw [hml]; rfl) (Steps.refl _) (argsL := []) (rest := []) (lenOf pd_0 rfl) rfl (by show 2 * 0 + _ ≤ _; exact Nat.le_of_eq rfl) (hb hby d29_1) (fun _ _ => ⟨rfl, e0, (by decide : 0 + 0 ≤ _), (by decide : 0 + 0 ≤ _)⟩)
  dsimp only [Pt.U, Pt.locs, Pt.cells, Pt.slots] at X1 l1 y1 z1 st1 hQ1
  subst l1 y1 z1
  obtain ⟨rfl, N1q, eh1⟩ := hQ1
  have N1 := Fr.app N0 N1q
  have k2 : ∀ t, Steps p.tables e below (T1.setTop (mkF m 123 #[.val (.ref u_GREATER_EQUAL), .val (.int (-1 : Int32))] [(.int (0 : Int32))])) t → Steps p.tables e below (s₁.setTop (entryFrame m #[(.ref u_GREATER_EQUAL), (.int (-1 : Int32))] 2)) t := by
    intro t k
    refine pre0 t ?_
    show Steps p.tables e below (s₁.setTop (mkF m 0 #[.val (.ref u_GREATER_EQUAL), .val (.int (-1 : Int32))] [])) _
    refine XS.aloadN X0.here hx rfl (hb hby d29_0) rfl rfl ?_
    show Steps p.tables e below (s₁.setTop (mkF m 1 #[.val (.ref u_GREATER_EQUAL), .val (.int (-1 : Int32))] [(.ref u_GREATER_EQUAL)])) _
    refine st1.trans ?_
    show Steps p.tables e below (T1.setTop (mkF m 4 #[.val (.ref u_GREATER_EQUAL), .val (.int (-1 : Int32))] [(.int (5 : Int32))])) _
    refine XS.tswIn X1.here hx rfl (pc0 := 4) (pc' := 114) rfl (hb hby d29_4) rfl (by decide) rfl (by decide) (by decide) ?_
    show Steps p.tables e below (T1.setTop (mkF m 114 #[.val (.ref u_GREATER_EQUAL), .val (.int (-1 : Int32))] [])) _
    refine XS.iloadN X1.here hx rfl (hb hby d29_114) rfl ?_
    show Steps p.tables e below (T1.setTop (mkF m 115 #[.val (.ref u_GREATER_EQUAL), .val (.int (-1 : Int32))] [(.int (-1 : Int32))])) _
    refine XS.ifYes X1.here hx rfl (pc0 := 115) (pc' := 122) rfl (hb hby d29_115) rfl ((if0 _ _).trans (tlt (by decide : (-1 : Int32) < (0 : Int32))).1) (by decide) (by decide) ?_
    show Steps p.tables e below (T1.setTop (mkF m 122 #[.val (.ref u_GREATER_EQUAL), .val (.int (-1 : Int32))] [])) _
    refine XS.iconst X1.here hx rfl (hb hby d29_122) ?_
    exact k
  obtain ⟨fs, hr, hrun, hended, hW, hsame⟩ := X1.leave (v := some (.int (0 : Int32))) (fun h => by rw [Bd.returns] at h; cases h)
  refine ⟨_, _, k2 _ ?_, hrun, hended, _, _, rfl, ?_, ⟨_, rfl⟩, hW, hsame.mono (by decide) (by decide)⟩
  · exact retN X1 hx (t := .boolean) Bd.returns (by simp) (hb hby d29_123) hr
  · show Q29 Z u_GREATER_EQUAL h0 n0 _ T1.heap _
    rw [eh1]
    exact ⟨rfl, N1, rfl⟩
theorem d30_0 : decode prog_4_method_10_code 0 = .ok (.aload_n 0, 1) := by decide +kernel
theorem d30_1 : decode prog_4_method_10_code 1 = .ok (.invokevirtual 48, 3) := by decide +kernel
theorem d30_4 : decode prog_4_method_10_code 4 = .ok (.tableswitch 40 0 5 #[50, 62, 74, 86, 98, 110], 40) := by decide +kernel
theorem d30_114 : decode prog_4_method_10_code 114 = .ok (.iload_n 1, 1) := by decide +kernel
theorem d30_115 : decode prog_4_method_10_code 115 = .ok (.ifCond .lt 7, 3) := by decide +kernel
theorem d30_118 : decode prog_4_method_10_code 118 = .ok (.iconst 1, 1) := by decide +kernel
theorem d30_119 : decode prog_4_method_10_code 119 = .ok (.goto 4, 3) := by decide +kernel
theorem d30_123 : decode prog_4_method_10_code 123 = .ok (.ireturn, 1) := by decide +kernel
theorem ef_30 (m : MethodId) (u_GREATER_EQUAL : Addr) : entryFrame m #[(.ref u_GREATER_EQUAL), (.int (1 : Int32))] 2 = mkF m 0 #[.val (.ref u_GREATER_EQUAL), .val (.int (1 : Int32))] [] := by first | (simp [entryFrame, mkF, argsToLocals, Value.category]; done) | rfl
def Q30 (Z : State) (u_GREATER_EQUAL : Addr) (h0 : Heap) (n0 : Nat) (v : Option Value) (h : Heap) (L : List Loc) : Prop := v = some (.int (1 : Int32)) ∧ Fr n0 L ∧ h = h0
set_option maxRecDepth 65536 in
set_option maxHeartbeats 40000000 in
theorem rm30 (l : Launch) (Z : State) (a0 : Array Value) (hw : ∀ d ∈ tables_1, d.before a0 Z = true) (ws : List Jvm.Cond) (u_GREATER_EQUAL : Addr) (h0 : Heap) (n0 : Nat) (Z0 : n0 ≤ h0.size) (Ex : Exa Z h0 u_GREATER_EQUAL "com/example/chop/chop/model/Relation") (Fo : Fld Z h0 u_GREATER_EQUAL "java/lang/Enum" "ordinal" "I" (.int (5 : Int32))) :
    MetFree l (⟨"com/example/chop/chop/model/Relation", "holds", "(I)Z"⟩ : MethodName) (head1 (Jvm.Cond.code (⟨"com/example/chop/chop/model/Relation", "holds", "(I)Z"⟩ : MethodName) prog_4_method_10_code 2 (some .boolean) :: ws) ({ frames := 1, cells := 0, slots := 0, locals := 12 } : Room)) (fun a U => a = #[(.ref u_GREATER_EQUAL), (.int (1 : Int32))] ∧ Z.Warmed39 U.vm ∧ U.heap = h0) (fun _ _ _ _ _ => True) (fun _ U o U' => ∃ v L, o = .returned v ∧ Q30 Z u_GREATER_EQUAL h0 n0 v U'.heap L ∧ FrameEnd U o U' L ({ frames := 1, cells := 0, slots := 0, locals := 12 } : Room).cells ({ frames := 1, cells := 0, slots := 0, locals := 12 } : Room).slots) := by
  refine MetFree.of_bodySF (plainFor_of_name pn_1) hisR ?_
  intro p e s m args below meth c s₁ Bd hml0 hP hK
  obtain ⟨rfl, hZ, hh⟩ := hP
  have hx := Bd.exec
  have hby := Bd.bytes
  have hml : c.maxLocals = 2 := hml0
  have hown : s.vm.findClass "com/example/chop/chop/model/Relation" = some m.cls := findClass_of_methodNamed Bd.named
  have hnm := (name_of_methodNamed Bd.named Bd.method).1
  have X0 : Stand p l e ({ frames := 1, cells := 0, slots := 0, locals := 12 } : Room) s m #[(.ref u_GREATER_EQUAL), (.int (1 : Int32))] below meth c s₁ [] 0 0 := Stand.of_body Bd
  have e0 : s₁.heap = h0 := by rw [← hh, Bd.state]; rfl
  have N0 := Fr.nil n0
  have pre0 : ∀ t, Steps p.tables e below (s₁.setTop (mkF m 0 #[.val (.ref u_GREATER_EQUAL), .val (.int (1 : Int32))] [])) t → Steps p.tables e below (s₁.setTop (entryFrame m #[(.ref u_GREATER_EQUAL), (.int (1 : Int32))] 2)) t := fun t k => castTop (ef_30 m u_GREATER_EQUAL) k
  obtain ⟨cq1, kq1, q1a, q1b, q1c⟩ := isOf hZ e0 Ex
  obtain ⟨_, _, ⟨T1, L1, k1, n1⟩, -, X1, ⟨Lc1, hQ1, l1, y1, z1⟩, st1⟩ := X0.virtualBackUp hx (x := (⟨"com/example/chop/chop/model/Relation", "ordinal", "()I"⟩ : MethodName)) (y := (⟨"java/lang/Enum", "ordinal", "()I"⟩ : MethodName)) (owner := "java/lang/Enum") hown (mvT hZ (hw _ (List.mem_of_getElem? (i := 19) rfl))) (mvT hZ (hw _ (List.mem_of_getElem? (i := 20) rfl))) (mvT hZ (hw _ (List.mem_of_getElem? (i := 21) rfl))) (by decide) (mvT hZ (hw _ (List.mem_of_getElem? (i := 23) rfl))) (mvT hZ (hw _ (List.mem_of_getElem? (i := 22) rfl))) (backOf (W := 0) (rm26 l Z a0 hw [] u_GREATER_EQUAL h0 n0 Z0 Fo) hZ (hw _ (List.mem_of_getElem? (i := 25) rfl)) (hw _ (List.mem_of_getElem? (i := 24) rfl)) (by decide) (by decide)) q1a q1c (g := (mkF m 1 #[.val (.ref u_GREATER_EQUAL), .val (.int (1 : Int32))] [(.ref u_GREATER_EQUAL)])) rfl (by rw [hml]; rfl) (Steps.refl _) (argsL := []) (rest := []) (lenOf pd_0 rfl) rfl (by show 2 * 0 + _ ≤ _; exact Nat.le_of_eq rfl) (hb hby d30_1) (fun _ _ => ⟨rfl, e0, (by decide : 0 + 0 ≤ _), (by decide : 0 + 0 ≤ _)⟩)
  dsimp only [Pt.U, Pt.locs, Pt.cells, Pt.slots] at X1 l1 y1 z1 st1 hQ1
  subst l1 y1 z1
  obtain ⟨rfl, N1q, eh1⟩ := hQ1
  have N1 := Fr.app N0 N1q
  have k2 : ∀ t, Steps p.tables e below (T1.setTop (mkF m 123 #[.val (.ref u_GREATER_EQUAL), .val (.int (1 : Int32))] [(.int (1 : Int32))])) t → Steps p.tables e below (s₁.setTop (entryFrame m #[(.ref u_GREATER_EQUAL), (.int (1 : Int32))] 2)) t := by
    intro t k
    refine pre0 t ?_
    show Steps p.tables e below (s₁.setTop (mkF m 0 #[.val (.ref u_GREATER_EQUAL), .val (.int (1 : Int32))] [])) _
    refine XS.aloadN X0.here hx rfl (hb hby d30_0) rfl rfl ?_
    show Steps p.tables e below (s₁.setTop (mkF m 1 #[.val (.ref u_GREATER_EQUAL), .val (.int (1 : Int32))] [(.ref u_GREATER_EQUAL)])) _
    refine st1.trans ?_
    show Steps p.tables e below (T1.setTop (mkF m 4 #[.val (.ref u_GREATER_EQUAL), .val (.int (1 : Int32))] [(.int (5 : Int32))])) _
    refine XS.tswIn X1.here hx rfl (pc0 := 4) (pc' := 114) rfl (hb hby d30_4) rfl (by decide) rfl (by decide) (by decide) ?_
    show Steps p.tables e below (T1.setTop (mkF m 114 #[.val (.ref u_GREATER_EQUAL), .val (.int (1 : Int32))] [])) _
    refine XS.iloadN X1.here hx rfl (hb hby d30_114) rfl ?_
    show Steps p.tables e below (T1.setTop (mkF m 115 #[.val (.ref u_GREATER_EQUAL), .val (.int (1 : Int32))] [(.int (1 : Int32))])) _
    refine XS.ifNo X1.here hx rfl (hb hby d30_115) rfl ((if0 _ _).trans (flt (by decide : ¬ ((1 : Int32) < (0 : Int32)))).1) ?_
    show Steps p.tables e below (T1.setTop (mkF m 118 #[.val (.ref u_GREATER_EQUAL), .val (.int (1 : Int32))] [])) _
    refine XS.iconst X1.here hx rfl (hb hby d30_118) ?_
    show Steps p.tables e below (T1.setTop (mkF m 119 #[.val (.ref u_GREATER_EQUAL), .val (.int (1 : Int32))] [(.int (1 : Int32))])) _
    refine XS.goto X1.here hx rfl (pc0 := 119) (pc' := 123) rfl (hb hby d30_119) (by decide) (by decide) ?_
    exact k
  obtain ⟨fs, hr, hrun, hended, hW, hsame⟩ := X1.leave (v := some (.int (1 : Int32))) (fun h => by rw [Bd.returns] at h; cases h)
  refine ⟨_, _, k2 _ ?_, hrun, hended, _, _, rfl, ?_, ⟨_, rfl⟩, hW, hsame.mono (by decide) (by decide)⟩
  · exact retN X1 hx (t := .boolean) Bd.returns (by simp) (hb hby d30_123) hr
  · show Q30 Z u_GREATER_EQUAL h0 n0 _ T1.heap _
    rw [eh1]
    exact ⟨rfl, N1, rfl⟩
theorem pd_1 : parseMethodDescriptor "(I)Lcom/example/chop/chop/model/Relation;" = some ⟨[.int], some (.object "com/example/chop/chop/model/Relation")⟩ := by decide +kernel
theorem pd_2 : parseMethodDescriptor "()Z" = some ⟨[], some .boolean⟩ := by decide +kernel
theorem pd_3 : parseMethodDescriptor "(I)Z" = some ⟨[.int], some .boolean⟩ := by decide +kernel
theorem ef_0 (m : MethodId) (p0_0 : Int32) : entryFrame m #[(.int p0_0)] maxLocals = mkF m 0 #[.val (.int p0_0), .unset, .unset, .unset, .unset, .unset] [] := by first | (simp [entryFrame, mkF, argsToLocals, Value.category, maxLocals]; done) | rfl
def Q0 (Z : State) (p0_0 : Int32) (u_EQUAL : Addr) (u_LESS_EQUAL : Addr) (u_NOT_EQUAL : Addr) (u_LESS : Addr) (u_GREATER_EQUAL : Addr) (u_GREATER : Addr) (h0 : Heap) (n0 : Nat) (v : Option Value) (h : Heap) (L : List Loc) : Prop := v = some (.int (1 : Int32)) ∧ Fr n0 L
set_option maxRecDepth 65536 in
set_option maxHeartbeats 40000000 in
theorem rm0 (l : Launch) (Z : State) (a0 : Array Value) (hw : ∀ d ∈ tables_1, d.before a0 Z = true) (ws : List Jvm.Cond) (p0_0 : Int32) (u_EQUAL : Addr) (u_LESS_EQUAL : Addr) (u_NOT_EQUAL : Addr) (u_LESS : Addr) (u_GREATER_EQUAL : Addr) (u_GREATER : Addr) (h0 : Heap) (n0 : Nat) (Z0 : n0 ≤ h0.size) (S_EQUAL : Sta Z h0 "com/example/chop/chop/model/Relation" "EQUAL" "Lcom/example/chop/chop/model/Relation;" (.ref u_EQUAL)) (E_u_EQUAL : Exa Z h0 u_EQUAL "com/example/chop/chop/model/Relation") (F_u_EQUAL_ordinal : Fld Z h0 u_EQUAL "java/lang/Enum" "ordinal" "I" (.int (0 : Int32))) (S_LESS_EQUAL : Sta Z h0 "com/example/chop/chop/model/Relation" "LESS_EQUAL" "Lcom/example/chop/chop/model/Relation;" (.ref u_LESS_EQUAL)) (E_u_LESS_EQUAL : Exa Z h0 u_LESS_EQUAL "com/example/chop/chop/model/Relation") (F_u_LESS_EQUAL_ordinal : Fld Z h0 u_LESS_EQUAL "java/lang/Enum" "ordinal" "I" (.int (3 : Int32))) (S_NOT_EQUAL : Sta Z h0 "com/example/chop/chop/model/Relation" "NOT_EQUAL" "Lcom/example/chop/chop/model/Relation;" (.ref u_NOT_EQUAL)) (E_u_NOT_EQUAL : Exa Z h0 u_NOT_EQUAL "com/example/chop/chop/model/Relation") (F_u_NOT_EQUAL_ordinal : Fld Z h0 u_NOT_EQUAL "java/lang/Enum" "ordinal" "I" (.int (1 : Int32))) (S_LESS : Sta Z h0 "com/example/chop/chop/model/Relation" "LESS" "Lcom/example/chop/chop/model/Relation;" (.ref u_LESS)) (E_u_LESS : Exa Z h0 u_LESS "com/example/chop/chop/model/Relation") (F_u_LESS_ordinal : Fld Z h0 u_LESS "java/lang/Enum" "ordinal" "I" (.int (2 : Int32))) (S_GREATER_EQUAL : Sta Z h0 "com/example/chop/chop/model/Relation" "GREATER_EQUAL" "Lcom/example/chop/chop/model/Relation;" (.ref u_GREATER_EQUAL)) (E_u_GREATER_EQUAL : Exa Z h0 u_GREATER_EQUAL "com/example/chop/chop/model/Relation") (F_u_GREATER_EQUAL_ordinal : Fld Z h0 u_GREATER_EQUAL "java/lang/Enum" "ordinal" "I" (.int (5 : Int32))) (S_GREATER : Sta Z h0 "com/example/chop/chop/model/Relation" "GREATER" "Lcom/example/chop/chop/model/Relation;" (.ref u_GREATER)) (E_u_GREATER : Exa Z h0 u_GREATER "com/example/chop/chop/model/Relation") (F_u_GREATER_ordinal : Fld Z h0 u_GREATER "java/lang/Enum" "ordinal" "I" (.int (4 : Int32))) :
    MetFree l x (head1 (Jvm.Cond.code x code maxLocals ret :: ws) room_1) (fun a U => a = #[(.int p0_0)] ∧ Z.Warmed39 U.vm ∧ U.heap = h0) (fun _ _ _ _ _ => True) (fun _ U o U' => ∃ v L, o = .returned v ∧ Q0 Z p0_0 u_EQUAL u_LESS_EQUAL u_NOT_EQUAL u_LESS u_GREATER_EQUAL u_GREATER h0 n0 v U'.heap L ∧ FrameEnd U o U' L 0 0) := by
  refine MetFree.of_bodySF (plainFor_of_name pn_2) hisR ?_
  intro p e s m args below meth c s₁ Bd hml0 hP hK
  obtain ⟨rfl, hZ, hh⟩ := hP
  have hx := Bd.exec
  have hby := Bd.bytes
  have hml : c.maxLocals = 6 := hml0
  have hown : s.vm.findClass "com/example/chop/chop/model/RelationIsBoundPinLaw" = some m.cls := findClass_of_methodNamed Bd.named
  have hnm := (name_of_methodNamed Bd.named Bd.method).1
  have X0 : Stand p l e room_1 s m #[(.int p0_0)] below meth c s₁ [] 0 0 := Stand.of_body Bd
  have e0 : s₁.heap = h0 := by rw [← hh, Bd.state]; rfl
  have N0 := Fr.nil n0
  have pre0 : ∀ t, Steps p.tables e below (s₁.setTop (mkF m 0 #[.val (.int p0_0), .unset, .unset, .unset, .unset, .unset] [])) t → Steps p.tables e below (s₁.setTop (entryFrame m #[(.int p0_0)] maxLocals)) t := fun t k => castTop (ef_0 m p0_0) k
  have ne_EQUAL_NOT_EQUAL : u_EQUAL ≠ u_NOT_EQUAL := Fld.ne F_u_EQUAL_ordinal F_u_NOT_EQUAL_ordinal (by intro q; cases q)
  have ne_EQUAL_LESS : u_EQUAL ≠ u_LESS := Fld.ne F_u_EQUAL_ordinal F_u_LESS_ordinal (by intro q; cases q)
  have ne_EQUAL_LESS_EQUAL : u_EQUAL ≠ u_LESS_EQUAL := Fld.ne F_u_EQUAL_ordinal F_u_LESS_EQUAL_ordinal (by intro q; cases q)
  have ne_EQUAL_GREATER : u_EQUAL ≠ u_GREATER := Fld.ne F_u_EQUAL_ordinal F_u_GREATER_ordinal (by intro q; cases q)
  have ne_EQUAL_GREATER_EQUAL : u_EQUAL ≠ u_GREATER_EQUAL := Fld.ne F_u_EQUAL_ordinal F_u_GREATER_EQUAL_ordinal (by intro q; cases q)
  have ne_NOT_EQUAL_LESS : u_NOT_EQUAL ≠ u_LESS := Fld.ne F_u_NOT_EQUAL_ordinal F_u_LESS_ordinal (by intro q; cases q)
  have ne_NOT_EQUAL_LESS_EQUAL : u_NOT_EQUAL ≠ u_LESS_EQUAL := Fld.ne F_u_NOT_EQUAL_ordinal F_u_LESS_EQUAL_ordinal (by intro q; cases q)
  have ne_NOT_EQUAL_GREATER : u_NOT_EQUAL ≠ u_GREATER := Fld.ne F_u_NOT_EQUAL_ordinal F_u_GREATER_ordinal (by intro q; cases q)
  have ne_NOT_EQUAL_GREATER_EQUAL : u_NOT_EQUAL ≠ u_GREATER_EQUAL := Fld.ne F_u_NOT_EQUAL_ordinal F_u_GREATER_EQUAL_ordinal (by intro q; cases q)
  have ne_LESS_LESS_EQUAL : u_LESS ≠ u_LESS_EQUAL := Fld.ne F_u_LESS_ordinal F_u_LESS_EQUAL_ordinal (by intro q; cases q)
  have ne_LESS_GREATER : u_LESS ≠ u_GREATER := Fld.ne F_u_LESS_ordinal F_u_GREATER_ordinal (by intro q; cases q)
  have ne_LESS_GREATER_EQUAL : u_LESS ≠ u_GREATER_EQUAL := Fld.ne F_u_LESS_ordinal F_u_GREATER_EQUAL_ordinal (by intro q; cases q)
  have ne_LESS_EQUAL_GREATER : u_LESS_EQUAL ≠ u_GREATER := Fld.ne F_u_LESS_EQUAL_ordinal F_u_GREATER_ordinal (by intro q; cases q)
  have ne_LESS_EQUAL_GREATER_EQUAL : u_LESS_EQUAL ≠ u_GREATER_EQUAL := Fld.ne F_u_LESS_EQUAL_ordinal F_u_GREATER_EQUAL_ordinal (by intro q; cases q)
  have ne_GREATER_GREATER_EQUAL : u_GREATER ≠ u_GREATER_EQUAL := Fld.ne F_u_GREATER_ordinal F_u_GREATER_EQUAL_ordinal (by intro q; cases q)
  have k1 : ∀ t, Steps p.tables e below (s₁.setTop (mkF m 8 #[.val (.int p0_0), .val (.int ((p0_0 &&& (2147483647 : Int32)) % (6 : Int32))), .unset, .unset, .unset, .unset] [])) t → Steps p.tables e below (s₁.setTop (entryFrame m #[(.int p0_0)] maxLocals)) t := by
    intro t k
    refine pre0 t ?_
    show Steps p.tables e below (s₁.setTop (mkF m 0 #[.val (.int p0_0), .unset, .unset, .unset, .unset, .unset] [])) _
    refine XS.iloadN X0.here hx rfl (hb hby at_0) rfl ?_
    show Steps p.tables e below (s₁.setTop (mkF m 1 #[.val (.int p0_0), .unset, .unset, .unset, .unset, .unset] [(.int p0_0)])) _
    refine X0.ldcInt hx hown (mvT hZ (hw _ (List.mem_of_getElem? (i := 0) rfl))) (g := (mkF m 1 #[.val (.int p0_0), .unset, .unset, .unset, .unset, .unset] [(.int p0_0)])) rfl (hb hby at_1) _ ?_
    show Steps p.tables e below (s₁.setTop (mkF m 3 #[.val (.int p0_0), .unset, .unset, .unset, .unset, .unset] [(.int (2147483647 : Int32)), (.int p0_0)])) _
    refine XS.iand X0.here hx rfl (hb hby at_3) rfl ?_
    show Steps p.tables e below (s₁.setTop (mkF m 4 #[.val (.int p0_0), .unset, .unset, .unset, .unset, .unset] [(.int (p0_0 &&& (2147483647 : Int32)))])) _
    refine XS.bipush X0.here hx rfl (hb hby at_4) ?_
    show Steps p.tables e below (s₁.setTop (mkF m 6 #[.val (.int p0_0), .unset, .unset, .unset, .unset, .unset] [(.int (6 : Int32)), (.int (p0_0 &&& (2147483647 : Int32)))])) _
    refine iremM X0 hx rfl (hb hby at_6) rfl (by decide) ?_
    show Steps p.tables e below (s₁.setTop (mkF m 7 #[.val (.int p0_0), .unset, .unset, .unset, .unset, .unset] [(.int ((p0_0 &&& (2147483647 : Int32)) % (6 : Int32)))])) _
    refine XS.istoreN X0.here hx rfl (hb hby at_7) rfl (l' := #[.val (.int p0_0), .val (.int ((p0_0 &&& (2147483647 : Int32)) % (6 : Int32))), .unset, .unset, .unset, .unset]) rfl ?_
    exact k
  obtain ⟨z2, hz2⟩ : ∃ z, z = ((p0_0 &&& (2147483647 : Int32)) % (6 : Int32)) := ⟨_, rfl⟩
  rw [← hz2] at k1
  have hz2' : z2 = (0 : Int32) ∨ z2 = (1 : Int32) ∨ z2 = (2 : Int32) ∨ z2 = (3 : Int32) ∨ z2 = (4 : Int32) ∨ z2 = (5 : Int32) := by rw [hz2]; exact own_mod6 _
  rcases hz2' with rfl | rfl | rfl | rfl | rfl | rfl
  · skip
    obtain ⟨_, _, ⟨T3, L3, k3, n3⟩, -, X3, ⟨Lc3, hQ3, l3, y3, z3⟩, st3⟩ := Jvm.LawKit.callS X0 hx (y := (⟨"com/example/chop/chop/model/RelationIsBoundPinLaw", "pick", "(I)Lcom/example/chop/chop/model/Relation;"⟩ : MethodName)) hown (mvT hZ (hw _ (List.mem_of_getElem? (i := 1) rfl))) (mvT hZ (hw _ (List.mem_of_getElem? (i := 2) rfl))) (mvT hZ (hw _ (List.mem_of_getElem? (i := 3) rfl))) (mvT hZ (hw _ (List.mem_of_getElem? (i := 4) rfl))) (by decide) (backOf (W := 0) (rm3 l Z a0 hw [] u_EQUAL h0 n0 Z0 S_EQUAL) hZ (hw _ (List.mem_of_getElem? (i := 4) rfl)) (hw _ (List.mem_of_getElem? (i := 3) rfl)) (by decide) (by decide)) (g := (mkF m 9 #[.val (.int p0_0), .val (.int (0 : Int32)), .unset, .unset, .unset, .unset] [(.int (0 : Int32))])) rfl (by rw [hml]; rfl) (argsL := [(.int (0 : Int32))]) (rest := []) (lenOf pd_1 rfl) rfl (by show 2 * 0 + _ ≤ _; exact Nat.le_of_eq rfl) (hb hby at_9) (fun _ _ => ⟨rfl, e0, (by decide : 0 + 0 ≤ _), (by decide : 0 + 0 ≤ _)⟩)
    dsimp only [Pt.U, Pt.locs, Pt.cells, Pt.slots] at X3 l3 y3 z3 st3 hQ3
    subst l3 y3 z3
    obtain ⟨rfl, N3q, eh3⟩ := hQ3
    have N3 := Fr.app N0 N3q
    obtain ⟨cq4, kq4, q4a, q4b, q4c⟩ := isOf hZ eh3 E_u_EQUAL
    obtain ⟨_, _, ⟨T4, L4, k4, n4⟩, -, X4, ⟨Lc4, hQ4, l4, y4, z4⟩, st4⟩ := X3.virtualBack hx (y := (⟨"com/example/chop/chop/model/Relation", "isBound", "()Z"⟩ : MethodName)) (z := (⟨"com/example/chop/chop/model/Relation", "isBound", "()Z"⟩ : MethodName)) hown (mvT hZ (hw _ (List.mem_of_getElem? (i := 8) rfl))) (mvT hZ (hw _ (List.mem_of_getElem? (i := 9) rfl))) (notFace_of_selects (args := #[]) (mvT hZ (hw _ (List.mem_of_getElem? (i := 11) rfl)))) (mvT hZ (hw _ (List.mem_of_getElem? (i := 11) rfl))) (mvT hZ (hw _ (List.mem_of_getElem? (i := 10) rfl))) (by decide) (backOf (W := 0) (rm2 l Z a0 hw [] u_EQUAL h0 n0 Z0 S_EQUAL) hZ (hw _ (List.mem_of_getElem? (i := 12) rfl)) (hw _ (List.mem_of_getElem? (i := 6) rfl)) (by decide) (by decide)) q4a q4c (g := (mkF m 25 #[.val (.int p0_0), .val (.int (0 : Int32)), .val (.ref u_EQUAL), .val (.int (0 : Int32)), .unset, .unset] [(.ref u_EQUAL)])) rfl (by rw [hml]; rfl) (Steps.refl _) (argsL := []) (rest := []) (lenOf pd_2 rfl) rfl (by show 2 * 0 + _ ≤ _; exact Nat.le_of_eq rfl) (hb hby at_25) (fun _ _ => ⟨rfl, eh3, (by decide : 0 + 0 ≤ _), (by decide : 0 + 0 ≤ _)⟩)
    dsimp only [Pt.U, Pt.locs, Pt.cells, Pt.slots] at X4 l4 y4 z4 st4 hQ4
    subst l4 y4 z4
    obtain ⟨rfl, N4q, eh4⟩ := hQ4
    have N4 := Fr.app N3 N4q
    obtain ⟨cq5, kq5, q5a, q5b, q5c⟩ := isOf hZ eh4 E_u_EQUAL
    obtain ⟨_, _, ⟨T5, L5, k5, n5⟩, -, X5, ⟨Lc5, hQ5, l5, y5, z5⟩, st5⟩ := X4.virtualBack hx (y := (⟨"com/example/chop/chop/model/Relation", "holds", "(I)Z"⟩ : MethodName)) (z := (⟨"com/example/chop/chop/model/Relation", "holds", "(I)Z"⟩ : MethodName)) hown (mvT hZ (hw _ (List.mem_of_getElem? (i := 14) rfl))) (mvT hZ (hw _ (List.mem_of_getElem? (i := 15) rfl))) (notFace_of_selects (args := #[]) (mvT hZ (hw _ (List.mem_of_getElem? (i := 17) rfl)))) (mvT hZ (hw _ (List.mem_of_getElem? (i := 17) rfl))) (mvT hZ (hw _ (List.mem_of_getElem? (i := 16) rfl))) (by decide) (backOf (W := 0) (rm4 l Z a0 hw [] u_EQUAL h0 n0 Z0 E_u_EQUAL F_u_EQUAL_ordinal) hZ (hw _ (List.mem_of_getElem? (i := 18) rfl)) (hw _ (List.mem_of_getElem? (i := 6) rfl)) (by decide) (by decide)) q5a q5c (g := (mkF m 32 #[.val (.int p0_0), .val (.int (0 : Int32)), .val (.ref u_EQUAL), .val (.int (0 : Int32)), .val (.int (0 : Int32)), .unset] [(.int (-1 : Int32)), (.ref u_EQUAL)])) rfl (by rw [hml]; rfl) (Steps.refl _) (argsL := [(.int (-1 : Int32))]) (rest := []) (lenOf pd_3 rfl) rfl (by show 2 * 0 + _ ≤ _; exact Nat.le_of_eq rfl) (hb hby at_32) (fun _ _ => ⟨rfl, eh4, (by decide : 0 + 0 ≤ _), (by decide : 0 + 0 ≤ _)⟩)
    dsimp only [Pt.U, Pt.locs, Pt.cells, Pt.slots] at X5 l5 y5 z5 st5 hQ5
    subst l5 y5 z5
    obtain ⟨rfl, N5q, eh5⟩ := hQ5
    have N5 := Fr.app N4 N5q
    obtain ⟨cq6, kq6, q6a, q6b, q6c⟩ := isOf hZ eh5 E_u_EQUAL
    obtain ⟨_, _, ⟨T6, L6, k6, n6⟩, -, X6, ⟨Lc6, hQ6, l6, y6, z6⟩, st6⟩ := X5.virtualBack hx (y := (⟨"com/example/chop/chop/model/Relation", "holds", "(I)Z"⟩ : MethodName)) (z := (⟨"com/example/chop/chop/model/Relation", "holds", "(I)Z"⟩ : MethodName)) hown (mvT hZ (hw _ (List.mem_of_getElem? (i := 14) rfl))) (mvT hZ (hw _ (List.mem_of_getElem? (i := 15) rfl))) (notFace_of_selects (args := #[]) (mvT hZ (hw _ (List.mem_of_getElem? (i := 17) rfl)))) (mvT hZ (hw _ (List.mem_of_getElem? (i := 17) rfl))) (mvT hZ (hw _ (List.mem_of_getElem? (i := 16) rfl))) (by decide) (backOf (W := 1) (rm5 l Z a0 hw [] u_EQUAL h0 n0 Z0 E_u_EQUAL F_u_EQUAL_ordinal) hZ (hw _ (List.mem_of_getElem? (i := 18) rfl)) (hw _ (List.mem_of_getElem? (i := 6) rfl)) (by decide) (by decide)) q6a q6c (g := (mkF m 37 #[.val (.int p0_0), .val (.int (0 : Int32)), .val (.ref u_EQUAL), .val (.int (0 : Int32)), .val (.int (0 : Int32)), .unset] [(.int (1 : Int32)), (.ref u_EQUAL), (.int (0 : Int32))])) rfl (by rw [hml]; rfl) (Steps.refl _) (argsL := [(.int (1 : Int32))]) (rest := [(.int (0 : Int32))]) (lenOf pd_3 rfl) rfl (by show 2 * 0 + _ ≤ _; exact Nat.le_of_eq rfl) (hb hby at_37) (fun _ _ => ⟨rfl, eh5, (by decide : 0 + 0 ≤ _), (by decide : 0 + 0 ≤ _)⟩)
    dsimp only [Pt.U, Pt.locs, Pt.cells, Pt.slots] at X6 l6 y6 z6 st6 hQ6
    subst l6 y6 z6
    obtain ⟨rfl, N6q, eh6⟩ := hQ6
    have N6 := Fr.app N5 N6q
    have k7 : ∀ t, Steps p.tables e below (T6.setTop (mkF m 68 #[.val (.int p0_0), .val (.int (0 : Int32)), .val (.ref u_EQUAL), .val (.int (0 : Int32)), .val (.int (0 : Int32)), .val (.int (0 : Int32))] [(.int (1 : Int32))])) t → Steps p.tables e below (s₁.setTop (entryFrame m #[(.int p0_0)] maxLocals)) t := by
      intro t k
      refine k1 t ?_
      show Steps p.tables e below (s₁.setTop (mkF m 8 #[.val (.int p0_0), .val (.int (0 : Int32)), .unset, .unset, .unset, .unset] [])) _
      refine XS.iloadN X0.here hx rfl (hb hby at_8) rfl ?_
      show Steps p.tables e below (s₁.setTop (mkF m 9 #[.val (.int p0_0), .val (.int (0 : Int32)), .unset, .unset, .unset, .unset] [(.int (0 : Int32))])) _
      refine st3 _ ?_
      show Steps p.tables e below (T3.setTop (mkF m 12 #[.val (.int p0_0), .val (.int (0 : Int32)), .unset, .unset, .unset, .unset] [(.ref u_EQUAL)])) _
      refine XS.astoreN X3.here hx rfl (hb hby at_12) rfl rfl (l' := #[.val (.int p0_0), .val (.int (0 : Int32)), .val (.ref u_EQUAL), .unset, .unset, .unset]) rfl ?_
      show Steps p.tables e below (T3.setTop (mkF m 13 #[.val (.int p0_0), .val (.int (0 : Int32)), .val (.ref u_EQUAL), .unset, .unset, .unset] [])) _
      refine XS.iloadN X3.here hx rfl (hb hby at_13) rfl ?_
      show Steps p.tables e below (T3.setTop (mkF m 14 #[.val (.int p0_0), .val (.int (0 : Int32)), .val (.ref u_EQUAL), .unset, .unset, .unset] [(.int (0 : Int32))])) _
      refine XS.iconst X3.here hx rfl (hb hby at_14) ?_
      show Steps p.tables e below (T3.setTop (mkF m 15 #[.val (.int p0_0), .val (.int (0 : Int32)), .val (.ref u_EQUAL), .unset, .unset, .unset] [(.int (2 : Int32)), (.int (0 : Int32))])) _
      refine XS.icmpYes X3.here hx rfl (pc0 := 15) (pc' := 22) rfl (hb hby at_15) rfl (tlt (by decide : (0 : Int32) < (2 : Int32))).1 (by decide) (by decide) ?_
      show Steps p.tables e below (T3.setTop (mkF m 22 #[.val (.int p0_0), .val (.int (0 : Int32)), .val (.ref u_EQUAL), .unset, .unset, .unset] [])) _
      refine XS.iconst X3.here hx rfl (hb hby at_22) ?_
      show Steps p.tables e below (T3.setTop (mkF m 23 #[.val (.int p0_0), .val (.int (0 : Int32)), .val (.ref u_EQUAL), .unset, .unset, .unset] [(.int (0 : Int32))])) _
      refine XS.istoreN X3.here hx rfl (hb hby at_23) rfl (l' := #[.val (.int p0_0), .val (.int (0 : Int32)), .val (.ref u_EQUAL), .val (.int (0 : Int32)), .unset, .unset]) rfl ?_
      show Steps p.tables e below (T3.setTop (mkF m 24 #[.val (.int p0_0), .val (.int (0 : Int32)), .val (.ref u_EQUAL), .val (.int (0 : Int32)), .unset, .unset] [])) _
      refine XS.aloadN X3.here hx rfl (hb hby at_24) rfl rfl ?_
      show Steps p.tables e below (T3.setTop (mkF m 25 #[.val (.int p0_0), .val (.int (0 : Int32)), .val (.ref u_EQUAL), .val (.int (0 : Int32)), .unset, .unset] [(.ref u_EQUAL)])) _
      refine st4.trans ?_
      show Steps p.tables e below (T4.setTop (mkF m 28 #[.val (.int p0_0), .val (.int (0 : Int32)), .val (.ref u_EQUAL), .val (.int (0 : Int32)), .unset, .unset] [(.int (0 : Int32))])) _
      refine XS.istore X4.here hx rfl (hb hby at_28) rfl (l' := #[.val (.int p0_0), .val (.int (0 : Int32)), .val (.ref u_EQUAL), .val (.int (0 : Int32)), .val (.int (0 : Int32)), .unset]) rfl ?_
      show Steps p.tables e below (T4.setTop (mkF m 30 #[.val (.int p0_0), .val (.int (0 : Int32)), .val (.ref u_EQUAL), .val (.int (0 : Int32)), .val (.int (0 : Int32)), .unset] [])) _
      refine XS.aloadN X4.here hx rfl (hb hby at_30) rfl rfl ?_
      show Steps p.tables e below (T4.setTop (mkF m 31 #[.val (.int p0_0), .val (.int (0 : Int32)), .val (.ref u_EQUAL), .val (.int (0 : Int32)), .val (.int (0 : Int32)), .unset] [(.ref u_EQUAL)])) _
      refine XS.iconst X4.here hx rfl (hb hby at_31) ?_
      show Steps p.tables e below (T4.setTop (mkF m 32 #[.val (.int p0_0), .val (.int (0 : Int32)), .val (.ref u_EQUAL), .val (.int (0 : Int32)), .val (.int (0 : Int32)), .unset] [(.int (-1 : Int32)), (.ref u_EQUAL)])) _
      refine st5.trans ?_
      show Steps p.tables e below (T5.setTop (mkF m 35 #[.val (.int p0_0), .val (.int (0 : Int32)), .val (.ref u_EQUAL), .val (.int (0 : Int32)), .val (.int (0 : Int32)), .unset] [(.int (0 : Int32))])) _
      refine XS.aloadN X5.here hx rfl (hb hby at_35) rfl rfl ?_
      show Steps p.tables e below (T5.setTop (mkF m 36 #[.val (.int p0_0), .val (.int (0 : Int32)), .val (.ref u_EQUAL), .val (.int (0 : Int32)), .val (.int (0 : Int32)), .unset] [(.ref u_EQUAL), (.int (0 : Int32))])) _
      refine XS.iconst X5.here hx rfl (hb hby at_36) ?_
      show Steps p.tables e below (T5.setTop (mkF m 37 #[.val (.int p0_0), .val (.int (0 : Int32)), .val (.ref u_EQUAL), .val (.int (0 : Int32)), .val (.int (0 : Int32)), .unset] [(.int (1 : Int32)), (.ref u_EQUAL), (.int (0 : Int32))])) _
      refine st6.trans ?_
      show Steps p.tables e below (T6.setTop (mkF m 40 #[.val (.int p0_0), .val (.int (0 : Int32)), .val (.ref u_EQUAL), .val (.int (0 : Int32)), .val (.int (0 : Int32)), .unset] [(.int (0 : Int32)), (.int (0 : Int32))])) _
      refine XS.icmpYes X6.here hx rfl (pc0 := 40) (pc' := 47) rfl (hb hby at_40) rfl (teq (by decide : (0 : Int32) = (0 : Int32))).1 (by decide) (by decide) ?_
      show Steps p.tables e below (T6.setTop (mkF m 47 #[.val (.int p0_0), .val (.int (0 : Int32)), .val (.ref u_EQUAL), .val (.int (0 : Int32)), .val (.int (0 : Int32)), .unset] [])) _
      refine XS.iconst X6.here hx rfl (hb hby at_47) ?_
      show Steps p.tables e below (T6.setTop (mkF m 48 #[.val (.int p0_0), .val (.int (0 : Int32)), .val (.ref u_EQUAL), .val (.int (0 : Int32)), .val (.int (0 : Int32)), .unset] [(.int (0 : Int32))])) _
      refine XS.istore X6.here hx rfl (hb hby at_48) rfl (l' := #[.val (.int p0_0), .val (.int (0 : Int32)), .val (.ref u_EQUAL), .val (.int (0 : Int32)), .val (.int (0 : Int32)), .val (.int (0 : Int32))]) rfl ?_
      show Steps p.tables e below (T6.setTop (mkF m 50 #[.val (.int p0_0), .val (.int (0 : Int32)), .val (.ref u_EQUAL), .val (.int (0 : Int32)), .val (.int (0 : Int32)), .val (.int (0 : Int32))] [])) _
      refine XS.iload X6.here hx rfl (hb hby at_50) rfl ?_
      show Steps p.tables e below (T6.setTop (mkF m 52 #[.val (.int p0_0), .val (.int (0 : Int32)), .val (.ref u_EQUAL), .val (.int (0 : Int32)), .val (.int (0 : Int32)), .val (.int (0 : Int32))] [(.int (0 : Int32))])) _
      refine XS.iloadN X6.here hx rfl (hb hby at_52) rfl ?_
      show Steps p.tables e below (T6.setTop (mkF m 53 #[.val (.int p0_0), .val (.int (0 : Int32)), .val (.ref u_EQUAL), .val (.int (0 : Int32)), .val (.int (0 : Int32)), .val (.int (0 : Int32))] [(.int (0 : Int32)), (.int (0 : Int32))])) _
      refine XS.icmpNo X6.here hx rfl (hb hby at_53) rfl (teq (by decide : (0 : Int32) = (0 : Int32))).2 ?_
      show Steps p.tables e below (T6.setTop (mkF m 56 #[.val (.int p0_0), .val (.int (0 : Int32)), .val (.ref u_EQUAL), .val (.int (0 : Int32)), .val (.int (0 : Int32)), .val (.int (0 : Int32))] [])) _
      refine XS.iload X6.here hx rfl (hb hby at_56) rfl ?_
      show Steps p.tables e below (T6.setTop (mkF m 58 #[.val (.int p0_0), .val (.int (0 : Int32)), .val (.ref u_EQUAL), .val (.int (0 : Int32)), .val (.int (0 : Int32)), .val (.int (0 : Int32))] [(.int (0 : Int32))])) _
      refine XS.iload X6.here hx rfl (hb hby at_58) rfl ?_
      show Steps p.tables e below (T6.setTop (mkF m 60 #[.val (.int p0_0), .val (.int (0 : Int32)), .val (.ref u_EQUAL), .val (.int (0 : Int32)), .val (.int (0 : Int32)), .val (.int (0 : Int32))] [(.int (0 : Int32)), (.int (0 : Int32))])) _
      refine XS.icmpNo X6.here hx rfl (hb hby at_60) rfl (teq (by decide : (0 : Int32) = (0 : Int32))).2 ?_
      show Steps p.tables e below (T6.setTop (mkF m 63 #[.val (.int p0_0), .val (.int (0 : Int32)), .val (.ref u_EQUAL), .val (.int (0 : Int32)), .val (.int (0 : Int32)), .val (.int (0 : Int32))] [])) _
      refine XS.iconst X6.here hx rfl (hb hby at_63) ?_
      show Steps p.tables e below (T6.setTop (mkF m 64 #[.val (.int p0_0), .val (.int (0 : Int32)), .val (.ref u_EQUAL), .val (.int (0 : Int32)), .val (.int (0 : Int32)), .val (.int (0 : Int32))] [(.int (1 : Int32))])) _
      refine XS.goto X6.here hx rfl (pc0 := 64) (pc' := 68) rfl (hb hby at_64) (by decide) (by decide) ?_
      exact k
    obtain ⟨fs, hr, hrun, hended, hW, hsame⟩ := X6.leave (v := some (.int (1 : Int32))) (fun h => by rw [Bd.returns] at h; cases h)
    refine ⟨_, _, k7 _ ?_, hrun, hended, _, _, rfl, ?_, ⟨_, rfl⟩, hW, hsame.mono (by decide) (by decide)⟩
    · exact retN X6 hx (t := .boolean) Bd.returns (by simp) (hb hby at_68) hr
    · show Q0 Z p0_0 u_EQUAL u_LESS_EQUAL u_NOT_EQUAL u_LESS u_GREATER_EQUAL u_GREATER h0 n0 _ T6.heap _
      rw [eh6]
      exact ⟨rfl, N6⟩
  · skip
    obtain ⟨_, _, ⟨T8, L8, k8, n8⟩, -, X8, ⟨Lc8, hQ8, l8, y8, z8⟩, st8⟩ := Jvm.LawKit.callS X0 hx (y := (⟨"com/example/chop/chop/model/RelationIsBoundPinLaw", "pick", "(I)Lcom/example/chop/chop/model/Relation;"⟩ : MethodName)) hown (mvT hZ (hw _ (List.mem_of_getElem? (i := 1) rfl))) (mvT hZ (hw _ (List.mem_of_getElem? (i := 2) rfl))) (mvT hZ (hw _ (List.mem_of_getElem? (i := 3) rfl))) (mvT hZ (hw _ (List.mem_of_getElem? (i := 4) rfl))) (by decide) (backOf (W := 0) (rm8 l Z a0 hw [] u_NOT_EQUAL h0 n0 Z0 S_NOT_EQUAL) hZ (hw _ (List.mem_of_getElem? (i := 4) rfl)) (hw _ (List.mem_of_getElem? (i := 3) rfl)) (by decide) (by decide)) (g := (mkF m 9 #[.val (.int p0_0), .val (.int (1 : Int32)), .unset, .unset, .unset, .unset] [(.int (1 : Int32))])) rfl (by rw [hml]; rfl) (argsL := [(.int (1 : Int32))]) (rest := []) (lenOf pd_1 rfl) rfl (by show 2 * 0 + _ ≤ _; exact Nat.le_of_eq rfl) (hb hby at_9) (fun _ _ => ⟨rfl, e0, (by decide : 0 + 0 ≤ _), (by decide : 0 + 0 ≤ _)⟩)
    dsimp only [Pt.U, Pt.locs, Pt.cells, Pt.slots] at X8 l8 y8 z8 st8 hQ8
    subst l8 y8 z8
    obtain ⟨rfl, N8q, eh8⟩ := hQ8
    have N8 := Fr.app N0 N8q
    obtain ⟨cq9, kq9, q9a, q9b, q9c⟩ := isOf hZ eh8 E_u_NOT_EQUAL
    obtain ⟨_, _, ⟨T9, L9, k9, n9⟩, -, X9, ⟨Lc9, hQ9, l9, y9, z9⟩, st9⟩ := X8.virtualBack hx (y := (⟨"com/example/chop/chop/model/Relation", "isBound", "()Z"⟩ : MethodName)) (z := (⟨"com/example/chop/chop/model/Relation", "isBound", "()Z"⟩ : MethodName)) hown (mvT hZ (hw _ (List.mem_of_getElem? (i := 8) rfl))) (mvT hZ (hw _ (List.mem_of_getElem? (i := 9) rfl))) (notFace_of_selects (args := #[]) (mvT hZ (hw _ (List.mem_of_getElem? (i := 11) rfl)))) (mvT hZ (hw _ (List.mem_of_getElem? (i := 11) rfl))) (mvT hZ (hw _ (List.mem_of_getElem? (i := 10) rfl))) (by decide) (backOf (W := 0) (rm7 l Z a0 hw [] u_NOT_EQUAL u_EQUAL h0 n0 Z0 S_EQUAL S_NOT_EQUAL (Ne.symm ne_EQUAL_NOT_EQUAL)) hZ (hw _ (List.mem_of_getElem? (i := 12) rfl)) (hw _ (List.mem_of_getElem? (i := 6) rfl)) (by decide) (by decide)) q9a q9c (g := (mkF m 25 #[.val (.int p0_0), .val (.int (1 : Int32)), .val (.ref u_NOT_EQUAL), .val (.int (0 : Int32)), .unset, .unset] [(.ref u_NOT_EQUAL)])) rfl (by rw [hml]; rfl) (Steps.refl _) (argsL := []) (rest := []) (lenOf pd_2 rfl) rfl (by show 2 * 0 + _ ≤ _; exact Nat.le_of_eq rfl) (hb hby at_25) (fun _ _ => ⟨rfl, eh8, (by decide : 0 + 0 ≤ _), (by decide : 0 + 0 ≤ _)⟩)
    dsimp only [Pt.U, Pt.locs, Pt.cells, Pt.slots] at X9 l9 y9 z9 st9 hQ9
    subst l9 y9 z9
    obtain ⟨rfl, N9q, eh9⟩ := hQ9
    have N9 := Fr.app N8 N9q
    obtain ⟨cq10, kq10, q10a, q10b, q10c⟩ := isOf hZ eh9 E_u_NOT_EQUAL
    obtain ⟨_, _, ⟨T10, L10, k10, n10⟩, -, X10, ⟨Lc10, hQ10, l10, y10, z10⟩, st10⟩ := X9.virtualBack hx (y := (⟨"com/example/chop/chop/model/Relation", "holds", "(I)Z"⟩ : MethodName)) (z := (⟨"com/example/chop/chop/model/Relation", "holds", "(I)Z"⟩ : MethodName)) hown (mvT hZ (hw _ (List.mem_of_getElem? (i := 14) rfl))) (mvT hZ (hw _ (List.mem_of_getElem? (i := 15) rfl))) (notFace_of_selects (args := #[]) (mvT hZ (hw _ (List.mem_of_getElem? (i := 17) rfl)))) (mvT hZ (hw _ (List.mem_of_getElem? (i := 17) rfl))) (mvT hZ (hw _ (List.mem_of_getElem? (i := 16) rfl))) (by decide) (backOf (W := 0) (rm9 l Z a0 hw [] u_NOT_EQUAL h0 n0 Z0 E_u_NOT_EQUAL F_u_NOT_EQUAL_ordinal) hZ (hw _ (List.mem_of_getElem? (i := 18) rfl)) (hw _ (List.mem_of_getElem? (i := 6) rfl)) (by decide) (by decide)) q10a q10c (g := (mkF m 32 #[.val (.int p0_0), .val (.int (1 : Int32)), .val (.ref u_NOT_EQUAL), .val (.int (0 : Int32)), .val (.int (0 : Int32)), .unset] [(.int (-1 : Int32)), (.ref u_NOT_EQUAL)])) rfl (by rw [hml]; rfl) (Steps.refl _) (argsL := [(.int (-1 : Int32))]) (rest := []) (lenOf pd_3 rfl) rfl (by show 2 * 0 + _ ≤ _; exact Nat.le_of_eq rfl) (hb hby at_32) (fun _ _ => ⟨rfl, eh9, (by decide : 0 + 0 ≤ _), (by decide : 0 + 0 ≤ _)⟩)
    dsimp only [Pt.U, Pt.locs, Pt.cells, Pt.slots] at X10 l10 y10 z10 st10 hQ10
    subst l10 y10 z10
    obtain ⟨rfl, N10q, eh10⟩ := hQ10
    have N10 := Fr.app N9 N10q
    obtain ⟨cq11, kq11, q11a, q11b, q11c⟩ := isOf hZ eh10 E_u_NOT_EQUAL
    obtain ⟨_, _, ⟨T11, L11, k11, n11⟩, -, X11, ⟨Lc11, hQ11, l11, y11, z11⟩, st11⟩ := X10.virtualBack hx (y := (⟨"com/example/chop/chop/model/Relation", "holds", "(I)Z"⟩ : MethodName)) (z := (⟨"com/example/chop/chop/model/Relation", "holds", "(I)Z"⟩ : MethodName)) hown (mvT hZ (hw _ (List.mem_of_getElem? (i := 14) rfl))) (mvT hZ (hw _ (List.mem_of_getElem? (i := 15) rfl))) (notFace_of_selects (args := #[]) (mvT hZ (hw _ (List.mem_of_getElem? (i := 17) rfl)))) (mvT hZ (hw _ (List.mem_of_getElem? (i := 17) rfl))) (mvT hZ (hw _ (List.mem_of_getElem? (i := 16) rfl))) (by decide) (backOf (W := 1) (rm10 l Z a0 hw [] u_NOT_EQUAL h0 n0 Z0 E_u_NOT_EQUAL F_u_NOT_EQUAL_ordinal) hZ (hw _ (List.mem_of_getElem? (i := 18) rfl)) (hw _ (List.mem_of_getElem? (i := 6) rfl)) (by decide) (by decide)) q11a q11c (g := (mkF m 37 #[.val (.int p0_0), .val (.int (1 : Int32)), .val (.ref u_NOT_EQUAL), .val (.int (0 : Int32)), .val (.int (0 : Int32)), .unset] [(.int (1 : Int32)), (.ref u_NOT_EQUAL), (.int (1 : Int32))])) rfl (by rw [hml]; rfl) (Steps.refl _) (argsL := [(.int (1 : Int32))]) (rest := [(.int (1 : Int32))]) (lenOf pd_3 rfl) rfl (by show 2 * 0 + _ ≤ _; exact Nat.le_of_eq rfl) (hb hby at_37) (fun _ _ => ⟨rfl, eh10, (by decide : 0 + 0 ≤ _), (by decide : 0 + 0 ≤ _)⟩)
    dsimp only [Pt.U, Pt.locs, Pt.cells, Pt.slots] at X11 l11 y11 z11 st11 hQ11
    subst l11 y11 z11
    obtain ⟨rfl, N11q, eh11⟩ := hQ11
    have N11 := Fr.app N10 N11q
    have k12 : ∀ t, Steps p.tables e below (T11.setTop (mkF m 68 #[.val (.int p0_0), .val (.int (1 : Int32)), .val (.ref u_NOT_EQUAL), .val (.int (0 : Int32)), .val (.int (0 : Int32)), .val (.int (0 : Int32))] [(.int (1 : Int32))])) t → Steps p.tables e below (s₁.setTop (entryFrame m #[(.int p0_0)] maxLocals)) t := by
      intro t k
      refine k1 t ?_
      show Steps p.tables e below (s₁.setTop (mkF m 8 #[.val (.int p0_0), .val (.int (1 : Int32)), .unset, .unset, .unset, .unset] [])) _
      refine XS.iloadN X0.here hx rfl (hb hby at_8) rfl ?_
      show Steps p.tables e below (s₁.setTop (mkF m 9 #[.val (.int p0_0), .val (.int (1 : Int32)), .unset, .unset, .unset, .unset] [(.int (1 : Int32))])) _
      refine st8 _ ?_
      show Steps p.tables e below (T8.setTop (mkF m 12 #[.val (.int p0_0), .val (.int (1 : Int32)), .unset, .unset, .unset, .unset] [(.ref u_NOT_EQUAL)])) _
      refine XS.astoreN X8.here hx rfl (hb hby at_12) rfl rfl (l' := #[.val (.int p0_0), .val (.int (1 : Int32)), .val (.ref u_NOT_EQUAL), .unset, .unset, .unset]) rfl ?_
      show Steps p.tables e below (T8.setTop (mkF m 13 #[.val (.int p0_0), .val (.int (1 : Int32)), .val (.ref u_NOT_EQUAL), .unset, .unset, .unset] [])) _
      refine XS.iloadN X8.here hx rfl (hb hby at_13) rfl ?_
      show Steps p.tables e below (T8.setTop (mkF m 14 #[.val (.int p0_0), .val (.int (1 : Int32)), .val (.ref u_NOT_EQUAL), .unset, .unset, .unset] [(.int (1 : Int32))])) _
      refine XS.iconst X8.here hx rfl (hb hby at_14) ?_
      show Steps p.tables e below (T8.setTop (mkF m 15 #[.val (.int p0_0), .val (.int (1 : Int32)), .val (.ref u_NOT_EQUAL), .unset, .unset, .unset] [(.int (2 : Int32)), (.int (1 : Int32))])) _
      refine XS.icmpYes X8.here hx rfl (pc0 := 15) (pc' := 22) rfl (hb hby at_15) rfl (tlt (by decide : (1 : Int32) < (2 : Int32))).1 (by decide) (by decide) ?_
      show Steps p.tables e below (T8.setTop (mkF m 22 #[.val (.int p0_0), .val (.int (1 : Int32)), .val (.ref u_NOT_EQUAL), .unset, .unset, .unset] [])) _
      refine XS.iconst X8.here hx rfl (hb hby at_22) ?_
      show Steps p.tables e below (T8.setTop (mkF m 23 #[.val (.int p0_0), .val (.int (1 : Int32)), .val (.ref u_NOT_EQUAL), .unset, .unset, .unset] [(.int (0 : Int32))])) _
      refine XS.istoreN X8.here hx rfl (hb hby at_23) rfl (l' := #[.val (.int p0_0), .val (.int (1 : Int32)), .val (.ref u_NOT_EQUAL), .val (.int (0 : Int32)), .unset, .unset]) rfl ?_
      show Steps p.tables e below (T8.setTop (mkF m 24 #[.val (.int p0_0), .val (.int (1 : Int32)), .val (.ref u_NOT_EQUAL), .val (.int (0 : Int32)), .unset, .unset] [])) _
      refine XS.aloadN X8.here hx rfl (hb hby at_24) rfl rfl ?_
      show Steps p.tables e below (T8.setTop (mkF m 25 #[.val (.int p0_0), .val (.int (1 : Int32)), .val (.ref u_NOT_EQUAL), .val (.int (0 : Int32)), .unset, .unset] [(.ref u_NOT_EQUAL)])) _
      refine st9.trans ?_
      show Steps p.tables e below (T9.setTop (mkF m 28 #[.val (.int p0_0), .val (.int (1 : Int32)), .val (.ref u_NOT_EQUAL), .val (.int (0 : Int32)), .unset, .unset] [(.int (0 : Int32))])) _
      refine XS.istore X9.here hx rfl (hb hby at_28) rfl (l' := #[.val (.int p0_0), .val (.int (1 : Int32)), .val (.ref u_NOT_EQUAL), .val (.int (0 : Int32)), .val (.int (0 : Int32)), .unset]) rfl ?_
      show Steps p.tables e below (T9.setTop (mkF m 30 #[.val (.int p0_0), .val (.int (1 : Int32)), .val (.ref u_NOT_EQUAL), .val (.int (0 : Int32)), .val (.int (0 : Int32)), .unset] [])) _
      refine XS.aloadN X9.here hx rfl (hb hby at_30) rfl rfl ?_
      show Steps p.tables e below (T9.setTop (mkF m 31 #[.val (.int p0_0), .val (.int (1 : Int32)), .val (.ref u_NOT_EQUAL), .val (.int (0 : Int32)), .val (.int (0 : Int32)), .unset] [(.ref u_NOT_EQUAL)])) _
      refine XS.iconst X9.here hx rfl (hb hby at_31) ?_
      show Steps p.tables e below (T9.setTop (mkF m 32 #[.val (.int p0_0), .val (.int (1 : Int32)), .val (.ref u_NOT_EQUAL), .val (.int (0 : Int32)), .val (.int (0 : Int32)), .unset] [(.int (-1 : Int32)), (.ref u_NOT_EQUAL)])) _
      refine st10.trans ?_
      show Steps p.tables e below (T10.setTop (mkF m 35 #[.val (.int p0_0), .val (.int (1 : Int32)), .val (.ref u_NOT_EQUAL), .val (.int (0 : Int32)), .val (.int (0 : Int32)), .unset] [(.int (1 : Int32))])) _
      refine XS.aloadN X10.here hx rfl (hb hby at_35) rfl rfl ?_
      show Steps p.tables e below (T10.setTop (mkF m 36 #[.val (.int p0_0), .val (.int (1 : Int32)), .val (.ref u_NOT_EQUAL), .val (.int (0 : Int32)), .val (.int (0 : Int32)), .unset] [(.ref u_NOT_EQUAL), (.int (1 : Int32))])) _
      refine XS.iconst X10.here hx rfl (hb hby at_36) ?_
      show Steps p.tables e below (T10.setTop (mkF m 37 #[.val (.int p0_0), .val (.int (1 : Int32)), .val (.ref u_NOT_EQUAL), .val (.int (0 : Int32)), .val (.int (0 : Int32)), .unset] [(.int (1 : Int32)), (.ref u_NOT_EQUAL), (.int (1 : Int32))])) _
      refine st11.trans ?_
      show Steps p.tables e below (T11.setTop (mkF m 40 #[.val (.int p0_0), .val (.int (1 : Int32)), .val (.ref u_NOT_EQUAL), .val (.int (0 : Int32)), .val (.int (0 : Int32)), .unset] [(.int (1 : Int32)), (.int (1 : Int32))])) _
      refine XS.icmpYes X11.here hx rfl (pc0 := 40) (pc' := 47) rfl (hb hby at_40) rfl (teq (by decide : (1 : Int32) = (1 : Int32))).1 (by decide) (by decide) ?_
      show Steps p.tables e below (T11.setTop (mkF m 47 #[.val (.int p0_0), .val (.int (1 : Int32)), .val (.ref u_NOT_EQUAL), .val (.int (0 : Int32)), .val (.int (0 : Int32)), .unset] [])) _
      refine XS.iconst X11.here hx rfl (hb hby at_47) ?_
      show Steps p.tables e below (T11.setTop (mkF m 48 #[.val (.int p0_0), .val (.int (1 : Int32)), .val (.ref u_NOT_EQUAL), .val (.int (0 : Int32)), .val (.int (0 : Int32)), .unset] [(.int (0 : Int32))])) _
      refine XS.istore X11.here hx rfl (hb hby at_48) rfl (l' := #[.val (.int p0_0), .val (.int (1 : Int32)), .val (.ref u_NOT_EQUAL), .val (.int (0 : Int32)), .val (.int (0 : Int32)), .val (.int (0 : Int32))]) rfl ?_
      show Steps p.tables e below (T11.setTop (mkF m 50 #[.val (.int p0_0), .val (.int (1 : Int32)), .val (.ref u_NOT_EQUAL), .val (.int (0 : Int32)), .val (.int (0 : Int32)), .val (.int (0 : Int32))] [])) _
      refine XS.iload X11.here hx rfl (hb hby at_50) rfl ?_
      show Steps p.tables e below (T11.setTop (mkF m 52 #[.val (.int p0_0), .val (.int (1 : Int32)), .val (.ref u_NOT_EQUAL), .val (.int (0 : Int32)), .val (.int (0 : Int32)), .val (.int (0 : Int32))] [(.int (0 : Int32))])) _
      refine XS.iloadN X11.here hx rfl (hb hby at_52) rfl ?_
      show Steps p.tables e below (T11.setTop (mkF m 53 #[.val (.int p0_0), .val (.int (1 : Int32)), .val (.ref u_NOT_EQUAL), .val (.int (0 : Int32)), .val (.int (0 : Int32)), .val (.int (0 : Int32))] [(.int (0 : Int32)), (.int (0 : Int32))])) _
      refine XS.icmpNo X11.here hx rfl (hb hby at_53) rfl (teq (by decide : (0 : Int32) = (0 : Int32))).2 ?_
      show Steps p.tables e below (T11.setTop (mkF m 56 #[.val (.int p0_0), .val (.int (1 : Int32)), .val (.ref u_NOT_EQUAL), .val (.int (0 : Int32)), .val (.int (0 : Int32)), .val (.int (0 : Int32))] [])) _
      refine XS.iload X11.here hx rfl (hb hby at_56) rfl ?_
      show Steps p.tables e below (T11.setTop (mkF m 58 #[.val (.int p0_0), .val (.int (1 : Int32)), .val (.ref u_NOT_EQUAL), .val (.int (0 : Int32)), .val (.int (0 : Int32)), .val (.int (0 : Int32))] [(.int (0 : Int32))])) _
      refine XS.iload X11.here hx rfl (hb hby at_58) rfl ?_
      show Steps p.tables e below (T11.setTop (mkF m 60 #[.val (.int p0_0), .val (.int (1 : Int32)), .val (.ref u_NOT_EQUAL), .val (.int (0 : Int32)), .val (.int (0 : Int32)), .val (.int (0 : Int32))] [(.int (0 : Int32)), (.int (0 : Int32))])) _
      refine XS.icmpNo X11.here hx rfl (hb hby at_60) rfl (teq (by decide : (0 : Int32) = (0 : Int32))).2 ?_
      show Steps p.tables e below (T11.setTop (mkF m 63 #[.val (.int p0_0), .val (.int (1 : Int32)), .val (.ref u_NOT_EQUAL), .val (.int (0 : Int32)), .val (.int (0 : Int32)), .val (.int (0 : Int32))] [])) _
      refine XS.iconst X11.here hx rfl (hb hby at_63) ?_
      show Steps p.tables e below (T11.setTop (mkF m 64 #[.val (.int p0_0), .val (.int (1 : Int32)), .val (.ref u_NOT_EQUAL), .val (.int (0 : Int32)), .val (.int (0 : Int32)), .val (.int (0 : Int32))] [(.int (1 : Int32))])) _
      refine XS.goto X11.here hx rfl (pc0 := 64) (pc' := 68) rfl (hb hby at_64) (by decide) (by decide) ?_
      exact k
    obtain ⟨fs, hr, hrun, hended, hW, hsame⟩ := X11.leave (v := some (.int (1 : Int32))) (fun h => by rw [Bd.returns] at h; cases h)
    refine ⟨_, _, k12 _ ?_, hrun, hended, _, _, rfl, ?_, ⟨_, rfl⟩, hW, hsame.mono (by decide) (by decide)⟩
    · exact retN X11 hx (t := .boolean) Bd.returns (by simp) (hb hby at_68) hr
    · show Q0 Z p0_0 u_EQUAL u_LESS_EQUAL u_NOT_EQUAL u_LESS u_GREATER_EQUAL u_GREATER h0 n0 _ T11.heap _
      rw [eh11]
      exact ⟨rfl, N11⟩
  · skip
    obtain ⟨_, _, ⟨T13, L13, k13, n13⟩, -, X13, ⟨Lc13, hQ13, l13, y13, z13⟩, st13⟩ := Jvm.LawKit.callS X0 hx (y := (⟨"com/example/chop/chop/model/RelationIsBoundPinLaw", "pick", "(I)Lcom/example/chop/chop/model/Relation;"⟩ : MethodName)) hown (mvT hZ (hw _ (List.mem_of_getElem? (i := 1) rfl))) (mvT hZ (hw _ (List.mem_of_getElem? (i := 2) rfl))) (mvT hZ (hw _ (List.mem_of_getElem? (i := 3) rfl))) (mvT hZ (hw _ (List.mem_of_getElem? (i := 4) rfl))) (by decide) (backOf (W := 0) (rm13 l Z a0 hw [] u_LESS h0 n0 Z0 S_LESS) hZ (hw _ (List.mem_of_getElem? (i := 4) rfl)) (hw _ (List.mem_of_getElem? (i := 3) rfl)) (by decide) (by decide)) (g := (mkF m 9 #[.val (.int p0_0), .val (.int (2 : Int32)), .unset, .unset, .unset, .unset] [(.int (2 : Int32))])) rfl (by rw [hml]; rfl) (argsL := [(.int (2 : Int32))]) (rest := []) (lenOf pd_1 rfl) rfl (by show 2 * 0 + _ ≤ _; exact Nat.le_of_eq rfl) (hb hby at_9) (fun _ _ => ⟨rfl, e0, (by decide : 0 + 0 ≤ _), (by decide : 0 + 0 ≤ _)⟩)
    dsimp only [Pt.U, Pt.locs, Pt.cells, Pt.slots] at X13 l13 y13 z13 st13 hQ13
    subst l13 y13 z13
    obtain ⟨rfl, N13q, eh13⟩ := hQ13
    have N13 := Fr.app N0 N13q
    obtain ⟨cq14, kq14, q14a, q14b, q14c⟩ := isOf hZ eh13 E_u_LESS
    obtain ⟨_, _, ⟨T14, L14, k14, n14⟩, -, X14, ⟨Lc14, hQ14, l14, y14, z14⟩, st14⟩ := X13.virtualBack hx (y := (⟨"com/example/chop/chop/model/Relation", "isBound", "()Z"⟩ : MethodName)) (z := (⟨"com/example/chop/chop/model/Relation", "isBound", "()Z"⟩ : MethodName)) hown (mvT hZ (hw _ (List.mem_of_getElem? (i := 8) rfl))) (mvT hZ (hw _ (List.mem_of_getElem? (i := 9) rfl))) (notFace_of_selects (args := #[]) (mvT hZ (hw _ (List.mem_of_getElem? (i := 11) rfl)))) (mvT hZ (hw _ (List.mem_of_getElem? (i := 11) rfl))) (mvT hZ (hw _ (List.mem_of_getElem? (i := 10) rfl))) (by decide) (backOf (W := 0) (rm12 l Z a0 hw [] u_LESS u_EQUAL u_NOT_EQUAL h0 n0 Z0 S_EQUAL S_NOT_EQUAL (Ne.symm ne_EQUAL_LESS) (Ne.symm ne_NOT_EQUAL_LESS)) hZ (hw _ (List.mem_of_getElem? (i := 12) rfl)) (hw _ (List.mem_of_getElem? (i := 6) rfl)) (by decide) (by decide)) q14a q14c (g := (mkF m 25 #[.val (.int p0_0), .val (.int (2 : Int32)), .val (.ref u_LESS), .val (.int (1 : Int32)), .unset, .unset] [(.ref u_LESS)])) rfl (by rw [hml]; rfl) (Steps.refl _) (argsL := []) (rest := []) (lenOf pd_2 rfl) rfl (by show 2 * 0 + _ ≤ _; exact Nat.le_of_eq rfl) (hb hby at_25) (fun _ _ => ⟨rfl, eh13, (by decide : 0 + 0 ≤ _), (by decide : 0 + 0 ≤ _)⟩)
    dsimp only [Pt.U, Pt.locs, Pt.cells, Pt.slots] at X14 l14 y14 z14 st14 hQ14
    subst l14 y14 z14
    obtain ⟨rfl, N14q, eh14⟩ := hQ14
    have N14 := Fr.app N13 N14q
    obtain ⟨cq15, kq15, q15a, q15b, q15c⟩ := isOf hZ eh14 E_u_LESS
    obtain ⟨_, _, ⟨T15, L15, k15, n15⟩, -, X15, ⟨Lc15, hQ15, l15, y15, z15⟩, st15⟩ := X14.virtualBack hx (y := (⟨"com/example/chop/chop/model/Relation", "holds", "(I)Z"⟩ : MethodName)) (z := (⟨"com/example/chop/chop/model/Relation", "holds", "(I)Z"⟩ : MethodName)) hown (mvT hZ (hw _ (List.mem_of_getElem? (i := 14) rfl))) (mvT hZ (hw _ (List.mem_of_getElem? (i := 15) rfl))) (notFace_of_selects (args := #[]) (mvT hZ (hw _ (List.mem_of_getElem? (i := 17) rfl)))) (mvT hZ (hw _ (List.mem_of_getElem? (i := 17) rfl))) (mvT hZ (hw _ (List.mem_of_getElem? (i := 16) rfl))) (by decide) (backOf (W := 0) (rm14 l Z a0 hw [] u_LESS h0 n0 Z0 E_u_LESS F_u_LESS_ordinal) hZ (hw _ (List.mem_of_getElem? (i := 18) rfl)) (hw _ (List.mem_of_getElem? (i := 6) rfl)) (by decide) (by decide)) q15a q15c (g := (mkF m 32 #[.val (.int p0_0), .val (.int (2 : Int32)), .val (.ref u_LESS), .val (.int (1 : Int32)), .val (.int (1 : Int32)), .unset] [(.int (-1 : Int32)), (.ref u_LESS)])) rfl (by rw [hml]; rfl) (Steps.refl _) (argsL := [(.int (-1 : Int32))]) (rest := []) (lenOf pd_3 rfl) rfl (by show 2 * 0 + _ ≤ _; exact Nat.le_of_eq rfl) (hb hby at_32) (fun _ _ => ⟨rfl, eh14, (by decide : 0 + 0 ≤ _), (by decide : 0 + 0 ≤ _)⟩)
    dsimp only [Pt.U, Pt.locs, Pt.cells, Pt.slots] at X15 l15 y15 z15 st15 hQ15
    subst l15 y15 z15
    obtain ⟨rfl, N15q, eh15⟩ := hQ15
    have N15 := Fr.app N14 N15q
    obtain ⟨cq16, kq16, q16a, q16b, q16c⟩ := isOf hZ eh15 E_u_LESS
    obtain ⟨_, _, ⟨T16, L16, k16, n16⟩, -, X16, ⟨Lc16, hQ16, l16, y16, z16⟩, st16⟩ := X15.virtualBack hx (y := (⟨"com/example/chop/chop/model/Relation", "holds", "(I)Z"⟩ : MethodName)) (z := (⟨"com/example/chop/chop/model/Relation", "holds", "(I)Z"⟩ : MethodName)) hown (mvT hZ (hw _ (List.mem_of_getElem? (i := 14) rfl))) (mvT hZ (hw _ (List.mem_of_getElem? (i := 15) rfl))) (notFace_of_selects (args := #[]) (mvT hZ (hw _ (List.mem_of_getElem? (i := 17) rfl)))) (mvT hZ (hw _ (List.mem_of_getElem? (i := 17) rfl))) (mvT hZ (hw _ (List.mem_of_getElem? (i := 16) rfl))) (by decide) (backOf (W := 1) (rm15 l Z a0 hw [] u_LESS h0 n0 Z0 E_u_LESS F_u_LESS_ordinal) hZ (hw _ (List.mem_of_getElem? (i := 18) rfl)) (hw _ (List.mem_of_getElem? (i := 6) rfl)) (by decide) (by decide)) q16a q16c (g := (mkF m 37 #[.val (.int p0_0), .val (.int (2 : Int32)), .val (.ref u_LESS), .val (.int (1 : Int32)), .val (.int (1 : Int32)), .unset] [(.int (1 : Int32)), (.ref u_LESS), (.int (1 : Int32))])) rfl (by rw [hml]; rfl) (Steps.refl _) (argsL := [(.int (1 : Int32))]) (rest := [(.int (1 : Int32))]) (lenOf pd_3 rfl) rfl (by show 2 * 0 + _ ≤ _; exact Nat.le_of_eq rfl) (hb hby at_37) (fun _ _ => ⟨rfl, eh15, (by decide : 0 + 0 ≤ _), (by decide : 0 + 0 ≤ _)⟩)
    dsimp only [Pt.U, Pt.locs, Pt.cells, Pt.slots] at X16 l16 y16 z16 st16 hQ16
    subst l16 y16 z16
    obtain ⟨rfl, N16q, eh16⟩ := hQ16
    have N16 := Fr.app N15 N16q
    have k17 : ∀ t, Steps p.tables e below (T16.setTop (mkF m 68 #[.val (.int p0_0), .val (.int (2 : Int32)), .val (.ref u_LESS), .val (.int (1 : Int32)), .val (.int (1 : Int32)), .val (.int (1 : Int32))] [(.int (1 : Int32))])) t → Steps p.tables e below (s₁.setTop (entryFrame m #[(.int p0_0)] maxLocals)) t := by
      intro t k
      refine k1 t ?_
      show Steps p.tables e below (s₁.setTop (mkF m 8 #[.val (.int p0_0), .val (.int (2 : Int32)), .unset, .unset, .unset, .unset] [])) _
      refine XS.iloadN X0.here hx rfl (hb hby at_8) rfl ?_
      show Steps p.tables e below (s₁.setTop (mkF m 9 #[.val (.int p0_0), .val (.int (2 : Int32)), .unset, .unset, .unset, .unset] [(.int (2 : Int32))])) _
      refine st13 _ ?_
      show Steps p.tables e below (T13.setTop (mkF m 12 #[.val (.int p0_0), .val (.int (2 : Int32)), .unset, .unset, .unset, .unset] [(.ref u_LESS)])) _
      refine XS.astoreN X13.here hx rfl (hb hby at_12) rfl rfl (l' := #[.val (.int p0_0), .val (.int (2 : Int32)), .val (.ref u_LESS), .unset, .unset, .unset]) rfl ?_
      show Steps p.tables e below (T13.setTop (mkF m 13 #[.val (.int p0_0), .val (.int (2 : Int32)), .val (.ref u_LESS), .unset, .unset, .unset] [])) _
      refine XS.iloadN X13.here hx rfl (hb hby at_13) rfl ?_
      show Steps p.tables e below (T13.setTop (mkF m 14 #[.val (.int p0_0), .val (.int (2 : Int32)), .val (.ref u_LESS), .unset, .unset, .unset] [(.int (2 : Int32))])) _
      refine XS.iconst X13.here hx rfl (hb hby at_14) ?_
      show Steps p.tables e below (T13.setTop (mkF m 15 #[.val (.int p0_0), .val (.int (2 : Int32)), .val (.ref u_LESS), .unset, .unset, .unset] [(.int (2 : Int32)), (.int (2 : Int32))])) _
      refine XS.icmpNo X13.here hx rfl (hb hby at_15) rfl (flt (by decide : ¬ ((2 : Int32) < (2 : Int32)))).1 ?_
      show Steps p.tables e below (T13.setTop (mkF m 18 #[.val (.int p0_0), .val (.int (2 : Int32)), .val (.ref u_LESS), .unset, .unset, .unset] [])) _
      refine XS.iconst X13.here hx rfl (hb hby at_18) ?_
      show Steps p.tables e below (T13.setTop (mkF m 19 #[.val (.int p0_0), .val (.int (2 : Int32)), .val (.ref u_LESS), .unset, .unset, .unset] [(.int (1 : Int32))])) _
      refine XS.goto X13.here hx rfl (pc0 := 19) (pc' := 23) rfl (hb hby at_19) (by decide) (by decide) ?_
      show Steps p.tables e below (T13.setTop (mkF m 23 #[.val (.int p0_0), .val (.int (2 : Int32)), .val (.ref u_LESS), .unset, .unset, .unset] [(.int (1 : Int32))])) _
      refine XS.istoreN X13.here hx rfl (hb hby at_23) rfl (l' := #[.val (.int p0_0), .val (.int (2 : Int32)), .val (.ref u_LESS), .val (.int (1 : Int32)), .unset, .unset]) rfl ?_
      show Steps p.tables e below (T13.setTop (mkF m 24 #[.val (.int p0_0), .val (.int (2 : Int32)), .val (.ref u_LESS), .val (.int (1 : Int32)), .unset, .unset] [])) _
      refine XS.aloadN X13.here hx rfl (hb hby at_24) rfl rfl ?_
      show Steps p.tables e below (T13.setTop (mkF m 25 #[.val (.int p0_0), .val (.int (2 : Int32)), .val (.ref u_LESS), .val (.int (1 : Int32)), .unset, .unset] [(.ref u_LESS)])) _
      refine st14.trans ?_
      show Steps p.tables e below (T14.setTop (mkF m 28 #[.val (.int p0_0), .val (.int (2 : Int32)), .val (.ref u_LESS), .val (.int (1 : Int32)), .unset, .unset] [(.int (1 : Int32))])) _
      refine XS.istore X14.here hx rfl (hb hby at_28) rfl (l' := #[.val (.int p0_0), .val (.int (2 : Int32)), .val (.ref u_LESS), .val (.int (1 : Int32)), .val (.int (1 : Int32)), .unset]) rfl ?_
      show Steps p.tables e below (T14.setTop (mkF m 30 #[.val (.int p0_0), .val (.int (2 : Int32)), .val (.ref u_LESS), .val (.int (1 : Int32)), .val (.int (1 : Int32)), .unset] [])) _
      refine XS.aloadN X14.here hx rfl (hb hby at_30) rfl rfl ?_
      show Steps p.tables e below (T14.setTop (mkF m 31 #[.val (.int p0_0), .val (.int (2 : Int32)), .val (.ref u_LESS), .val (.int (1 : Int32)), .val (.int (1 : Int32)), .unset] [(.ref u_LESS)])) _
      refine XS.iconst X14.here hx rfl (hb hby at_31) ?_
      show Steps p.tables e below (T14.setTop (mkF m 32 #[.val (.int p0_0), .val (.int (2 : Int32)), .val (.ref u_LESS), .val (.int (1 : Int32)), .val (.int (1 : Int32)), .unset] [(.int (-1 : Int32)), (.ref u_LESS)])) _
      refine st15.trans ?_
      show Steps p.tables e below (T15.setTop (mkF m 35 #[.val (.int p0_0), .val (.int (2 : Int32)), .val (.ref u_LESS), .val (.int (1 : Int32)), .val (.int (1 : Int32)), .unset] [(.int (1 : Int32))])) _
      refine XS.aloadN X15.here hx rfl (hb hby at_35) rfl rfl ?_
      show Steps p.tables e below (T15.setTop (mkF m 36 #[.val (.int p0_0), .val (.int (2 : Int32)), .val (.ref u_LESS), .val (.int (1 : Int32)), .val (.int (1 : Int32)), .unset] [(.ref u_LESS), (.int (1 : Int32))])) _
      refine XS.iconst X15.here hx rfl (hb hby at_36) ?_
      show Steps p.tables e below (T15.setTop (mkF m 37 #[.val (.int p0_0), .val (.int (2 : Int32)), .val (.ref u_LESS), .val (.int (1 : Int32)), .val (.int (1 : Int32)), .unset] [(.int (1 : Int32)), (.ref u_LESS), (.int (1 : Int32))])) _
      refine st16.trans ?_
      show Steps p.tables e below (T16.setTop (mkF m 40 #[.val (.int p0_0), .val (.int (2 : Int32)), .val (.ref u_LESS), .val (.int (1 : Int32)), .val (.int (1 : Int32)), .unset] [(.int (0 : Int32)), (.int (1 : Int32))])) _
      refine XS.icmpNo X16.here hx rfl (hb hby at_40) rfl (feq (by decide : ¬ ((1 : Int32) = (0 : Int32)))).1 ?_
      show Steps p.tables e below (T16.setTop (mkF m 43 #[.val (.int p0_0), .val (.int (2 : Int32)), .val (.ref u_LESS), .val (.int (1 : Int32)), .val (.int (1 : Int32)), .unset] [])) _
      refine XS.iconst X16.here hx rfl (hb hby at_43) ?_
      show Steps p.tables e below (T16.setTop (mkF m 44 #[.val (.int p0_0), .val (.int (2 : Int32)), .val (.ref u_LESS), .val (.int (1 : Int32)), .val (.int (1 : Int32)), .unset] [(.int (1 : Int32))])) _
      refine XS.goto X16.here hx rfl (pc0 := 44) (pc' := 48) rfl (hb hby at_44) (by decide) (by decide) ?_
      show Steps p.tables e below (T16.setTop (mkF m 48 #[.val (.int p0_0), .val (.int (2 : Int32)), .val (.ref u_LESS), .val (.int (1 : Int32)), .val (.int (1 : Int32)), .unset] [(.int (1 : Int32))])) _
      refine XS.istore X16.here hx rfl (hb hby at_48) rfl (l' := #[.val (.int p0_0), .val (.int (2 : Int32)), .val (.ref u_LESS), .val (.int (1 : Int32)), .val (.int (1 : Int32)), .val (.int (1 : Int32))]) rfl ?_
      show Steps p.tables e below (T16.setTop (mkF m 50 #[.val (.int p0_0), .val (.int (2 : Int32)), .val (.ref u_LESS), .val (.int (1 : Int32)), .val (.int (1 : Int32)), .val (.int (1 : Int32))] [])) _
      refine XS.iload X16.here hx rfl (hb hby at_50) rfl ?_
      show Steps p.tables e below (T16.setTop (mkF m 52 #[.val (.int p0_0), .val (.int (2 : Int32)), .val (.ref u_LESS), .val (.int (1 : Int32)), .val (.int (1 : Int32)), .val (.int (1 : Int32))] [(.int (1 : Int32))])) _
      refine XS.iloadN X16.here hx rfl (hb hby at_52) rfl ?_
      show Steps p.tables e below (T16.setTop (mkF m 53 #[.val (.int p0_0), .val (.int (2 : Int32)), .val (.ref u_LESS), .val (.int (1 : Int32)), .val (.int (1 : Int32)), .val (.int (1 : Int32))] [(.int (1 : Int32)), (.int (1 : Int32))])) _
      refine XS.icmpNo X16.here hx rfl (hb hby at_53) rfl (teq (by decide : (1 : Int32) = (1 : Int32))).2 ?_
      show Steps p.tables e below (T16.setTop (mkF m 56 #[.val (.int p0_0), .val (.int (2 : Int32)), .val (.ref u_LESS), .val (.int (1 : Int32)), .val (.int (1 : Int32)), .val (.int (1 : Int32))] [])) _
      refine XS.iload X16.here hx rfl (hb hby at_56) rfl ?_
      show Steps p.tables e below (T16.setTop (mkF m 58 #[.val (.int p0_0), .val (.int (2 : Int32)), .val (.ref u_LESS), .val (.int (1 : Int32)), .val (.int (1 : Int32)), .val (.int (1 : Int32))] [(.int (1 : Int32))])) _
      refine XS.iload X16.here hx rfl (hb hby at_58) rfl ?_
      show Steps p.tables e below (T16.setTop (mkF m 60 #[.val (.int p0_0), .val (.int (2 : Int32)), .val (.ref u_LESS), .val (.int (1 : Int32)), .val (.int (1 : Int32)), .val (.int (1 : Int32))] [(.int (1 : Int32)), (.int (1 : Int32))])) _
      refine XS.icmpNo X16.here hx rfl (hb hby at_60) rfl (teq (by decide : (1 : Int32) = (1 : Int32))).2 ?_
      show Steps p.tables e below (T16.setTop (mkF m 63 #[.val (.int p0_0), .val (.int (2 : Int32)), .val (.ref u_LESS), .val (.int (1 : Int32)), .val (.int (1 : Int32)), .val (.int (1 : Int32))] [])) _
      refine XS.iconst X16.here hx rfl (hb hby at_63) ?_
      show Steps p.tables e below (T16.setTop (mkF m 64 #[.val (.int p0_0), .val (.int (2 : Int32)), .val (.ref u_LESS), .val (.int (1 : Int32)), .val (.int (1 : Int32)), .val (.int (1 : Int32))] [(.int (1 : Int32))])) _
      refine XS.goto X16.here hx rfl (pc0 := 64) (pc' := 68) rfl (hb hby at_64) (by decide) (by decide) ?_
      exact k
    obtain ⟨fs, hr, hrun, hended, hW, hsame⟩ := X16.leave (v := some (.int (1 : Int32))) (fun h => by rw [Bd.returns] at h; cases h)
    refine ⟨_, _, k17 _ ?_, hrun, hended, _, _, rfl, ?_, ⟨_, rfl⟩, hW, hsame.mono (by decide) (by decide)⟩
    · exact retN X16 hx (t := .boolean) Bd.returns (by simp) (hb hby at_68) hr
    · show Q0 Z p0_0 u_EQUAL u_LESS_EQUAL u_NOT_EQUAL u_LESS u_GREATER_EQUAL u_GREATER h0 n0 _ T16.heap _
      rw [eh16]
      exact ⟨rfl, N16⟩
  · skip
    obtain ⟨_, _, ⟨T18, L18, k18, n18⟩, -, X18, ⟨Lc18, hQ18, l18, y18, z18⟩, st18⟩ := Jvm.LawKit.callS X0 hx (y := (⟨"com/example/chop/chop/model/RelationIsBoundPinLaw", "pick", "(I)Lcom/example/chop/chop/model/Relation;"⟩ : MethodName)) hown (mvT hZ (hw _ (List.mem_of_getElem? (i := 1) rfl))) (mvT hZ (hw _ (List.mem_of_getElem? (i := 2) rfl))) (mvT hZ (hw _ (List.mem_of_getElem? (i := 3) rfl))) (mvT hZ (hw _ (List.mem_of_getElem? (i := 4) rfl))) (by decide) (backOf (W := 0) (rm18 l Z a0 hw [] u_LESS_EQUAL h0 n0 Z0 S_LESS_EQUAL) hZ (hw _ (List.mem_of_getElem? (i := 4) rfl)) (hw _ (List.mem_of_getElem? (i := 3) rfl)) (by decide) (by decide)) (g := (mkF m 9 #[.val (.int p0_0), .val (.int (3 : Int32)), .unset, .unset, .unset, .unset] [(.int (3 : Int32))])) rfl (by rw [hml]; rfl) (argsL := [(.int (3 : Int32))]) (rest := []) (lenOf pd_1 rfl) rfl (by show 2 * 0 + _ ≤ _; exact Nat.le_of_eq rfl) (hb hby at_9) (fun _ _ => ⟨rfl, e0, (by decide : 0 + 0 ≤ _), (by decide : 0 + 0 ≤ _)⟩)
    dsimp only [Pt.U, Pt.locs, Pt.cells, Pt.slots] at X18 l18 y18 z18 st18 hQ18
    subst l18 y18 z18
    obtain ⟨rfl, N18q, eh18⟩ := hQ18
    have N18 := Fr.app N0 N18q
    obtain ⟨cq19, kq19, q19a, q19b, q19c⟩ := isOf hZ eh18 E_u_LESS_EQUAL
    obtain ⟨_, _, ⟨T19, L19, k19, n19⟩, -, X19, ⟨Lc19, hQ19, l19, y19, z19⟩, st19⟩ := X18.virtualBack hx (y := (⟨"com/example/chop/chop/model/Relation", "isBound", "()Z"⟩ : MethodName)) (z := (⟨"com/example/chop/chop/model/Relation", "isBound", "()Z"⟩ : MethodName)) hown (mvT hZ (hw _ (List.mem_of_getElem? (i := 8) rfl))) (mvT hZ (hw _ (List.mem_of_getElem? (i := 9) rfl))) (notFace_of_selects (args := #[]) (mvT hZ (hw _ (List.mem_of_getElem? (i := 11) rfl)))) (mvT hZ (hw _ (List.mem_of_getElem? (i := 11) rfl))) (mvT hZ (hw _ (List.mem_of_getElem? (i := 10) rfl))) (by decide) (backOf (W := 0) (rm17 l Z a0 hw [] u_LESS_EQUAL u_EQUAL u_NOT_EQUAL h0 n0 Z0 S_EQUAL S_NOT_EQUAL (Ne.symm ne_EQUAL_LESS_EQUAL) (Ne.symm ne_NOT_EQUAL_LESS_EQUAL)) hZ (hw _ (List.mem_of_getElem? (i := 12) rfl)) (hw _ (List.mem_of_getElem? (i := 6) rfl)) (by decide) (by decide)) q19a q19c (g := (mkF m 25 #[.val (.int p0_0), .val (.int (3 : Int32)), .val (.ref u_LESS_EQUAL), .val (.int (1 : Int32)), .unset, .unset] [(.ref u_LESS_EQUAL)])) rfl (by rw [hml]; rfl) (Steps.refl _) (argsL := []) (rest := []) (lenOf pd_2 rfl) rfl (by show 2 * 0 + _ ≤ _; exact Nat.le_of_eq rfl) (hb hby at_25) (fun _ _ => ⟨rfl, eh18, (by decide : 0 + 0 ≤ _), (by decide : 0 + 0 ≤ _)⟩)
    dsimp only [Pt.U, Pt.locs, Pt.cells, Pt.slots] at X19 l19 y19 z19 st19 hQ19
    subst l19 y19 z19
    obtain ⟨rfl, N19q, eh19⟩ := hQ19
    have N19 := Fr.app N18 N19q
    obtain ⟨cq20, kq20, q20a, q20b, q20c⟩ := isOf hZ eh19 E_u_LESS_EQUAL
    obtain ⟨_, _, ⟨T20, L20, k20, n20⟩, -, X20, ⟨Lc20, hQ20, l20, y20, z20⟩, st20⟩ := X19.virtualBack hx (y := (⟨"com/example/chop/chop/model/Relation", "holds", "(I)Z"⟩ : MethodName)) (z := (⟨"com/example/chop/chop/model/Relation", "holds", "(I)Z"⟩ : MethodName)) hown (mvT hZ (hw _ (List.mem_of_getElem? (i := 14) rfl))) (mvT hZ (hw _ (List.mem_of_getElem? (i := 15) rfl))) (notFace_of_selects (args := #[]) (mvT hZ (hw _ (List.mem_of_getElem? (i := 17) rfl)))) (mvT hZ (hw _ (List.mem_of_getElem? (i := 17) rfl))) (mvT hZ (hw _ (List.mem_of_getElem? (i := 16) rfl))) (by decide) (backOf (W := 0) (rm19 l Z a0 hw [] u_LESS_EQUAL h0 n0 Z0 E_u_LESS_EQUAL F_u_LESS_EQUAL_ordinal) hZ (hw _ (List.mem_of_getElem? (i := 18) rfl)) (hw _ (List.mem_of_getElem? (i := 6) rfl)) (by decide) (by decide)) q20a q20c (g := (mkF m 32 #[.val (.int p0_0), .val (.int (3 : Int32)), .val (.ref u_LESS_EQUAL), .val (.int (1 : Int32)), .val (.int (1 : Int32)), .unset] [(.int (-1 : Int32)), (.ref u_LESS_EQUAL)])) rfl (by rw [hml]; rfl) (Steps.refl _) (argsL := [(.int (-1 : Int32))]) (rest := []) (lenOf pd_3 rfl) rfl (by show 2 * 0 + _ ≤ _; exact Nat.le_of_eq rfl) (hb hby at_32) (fun _ _ => ⟨rfl, eh19, (by decide : 0 + 0 ≤ _), (by decide : 0 + 0 ≤ _)⟩)
    dsimp only [Pt.U, Pt.locs, Pt.cells, Pt.slots] at X20 l20 y20 z20 st20 hQ20
    subst l20 y20 z20
    obtain ⟨rfl, N20q, eh20⟩ := hQ20
    have N20 := Fr.app N19 N20q
    obtain ⟨cq21, kq21, q21a, q21b, q21c⟩ := isOf hZ eh20 E_u_LESS_EQUAL
    obtain ⟨_, _, ⟨T21, L21, k21, n21⟩, -, X21, ⟨Lc21, hQ21, l21, y21, z21⟩, st21⟩ := X20.virtualBack hx (y := (⟨"com/example/chop/chop/model/Relation", "holds", "(I)Z"⟩ : MethodName)) (z := (⟨"com/example/chop/chop/model/Relation", "holds", "(I)Z"⟩ : MethodName)) hown (mvT hZ (hw _ (List.mem_of_getElem? (i := 14) rfl))) (mvT hZ (hw _ (List.mem_of_getElem? (i := 15) rfl))) (notFace_of_selects (args := #[]) (mvT hZ (hw _ (List.mem_of_getElem? (i := 17) rfl)))) (mvT hZ (hw _ (List.mem_of_getElem? (i := 17) rfl))) (mvT hZ (hw _ (List.mem_of_getElem? (i := 16) rfl))) (by decide) (backOf (W := 1) (rm20 l Z a0 hw [] u_LESS_EQUAL h0 n0 Z0 E_u_LESS_EQUAL F_u_LESS_EQUAL_ordinal) hZ (hw _ (List.mem_of_getElem? (i := 18) rfl)) (hw _ (List.mem_of_getElem? (i := 6) rfl)) (by decide) (by decide)) q21a q21c (g := (mkF m 37 #[.val (.int p0_0), .val (.int (3 : Int32)), .val (.ref u_LESS_EQUAL), .val (.int (1 : Int32)), .val (.int (1 : Int32)), .unset] [(.int (1 : Int32)), (.ref u_LESS_EQUAL), (.int (1 : Int32))])) rfl (by rw [hml]; rfl) (Steps.refl _) (argsL := [(.int (1 : Int32))]) (rest := [(.int (1 : Int32))]) (lenOf pd_3 rfl) rfl (by show 2 * 0 + _ ≤ _; exact Nat.le_of_eq rfl) (hb hby at_37) (fun _ _ => ⟨rfl, eh20, (by decide : 0 + 0 ≤ _), (by decide : 0 + 0 ≤ _)⟩)
    dsimp only [Pt.U, Pt.locs, Pt.cells, Pt.slots] at X21 l21 y21 z21 st21 hQ21
    subst l21 y21 z21
    obtain ⟨rfl, N21q, eh21⟩ := hQ21
    have N21 := Fr.app N20 N21q
    have k22 : ∀ t, Steps p.tables e below (T21.setTop (mkF m 68 #[.val (.int p0_0), .val (.int (3 : Int32)), .val (.ref u_LESS_EQUAL), .val (.int (1 : Int32)), .val (.int (1 : Int32)), .val (.int (1 : Int32))] [(.int (1 : Int32))])) t → Steps p.tables e below (s₁.setTop (entryFrame m #[(.int p0_0)] maxLocals)) t := by
      intro t k
      refine k1 t ?_
      show Steps p.tables e below (s₁.setTop (mkF m 8 #[.val (.int p0_0), .val (.int (3 : Int32)), .unset, .unset, .unset, .unset] [])) _
      refine XS.iloadN X0.here hx rfl (hb hby at_8) rfl ?_
      show Steps p.tables e below (s₁.setTop (mkF m 9 #[.val (.int p0_0), .val (.int (3 : Int32)), .unset, .unset, .unset, .unset] [(.int (3 : Int32))])) _
      refine st18 _ ?_
      show Steps p.tables e below (T18.setTop (mkF m 12 #[.val (.int p0_0), .val (.int (3 : Int32)), .unset, .unset, .unset, .unset] [(.ref u_LESS_EQUAL)])) _
      refine XS.astoreN X18.here hx rfl (hb hby at_12) rfl rfl (l' := #[.val (.int p0_0), .val (.int (3 : Int32)), .val (.ref u_LESS_EQUAL), .unset, .unset, .unset]) rfl ?_
      show Steps p.tables e below (T18.setTop (mkF m 13 #[.val (.int p0_0), .val (.int (3 : Int32)), .val (.ref u_LESS_EQUAL), .unset, .unset, .unset] [])) _
      refine XS.iloadN X18.here hx rfl (hb hby at_13) rfl ?_
      show Steps p.tables e below (T18.setTop (mkF m 14 #[.val (.int p0_0), .val (.int (3 : Int32)), .val (.ref u_LESS_EQUAL), .unset, .unset, .unset] [(.int (3 : Int32))])) _
      refine XS.iconst X18.here hx rfl (hb hby at_14) ?_
      show Steps p.tables e below (T18.setTop (mkF m 15 #[.val (.int p0_0), .val (.int (3 : Int32)), .val (.ref u_LESS_EQUAL), .unset, .unset, .unset] [(.int (2 : Int32)), (.int (3 : Int32))])) _
      refine XS.icmpNo X18.here hx rfl (hb hby at_15) rfl (flt (by decide : ¬ ((3 : Int32) < (2 : Int32)))).1 ?_
      show Steps p.tables e below (T18.setTop (mkF m 18 #[.val (.int p0_0), .val (.int (3 : Int32)), .val (.ref u_LESS_EQUAL), .unset, .unset, .unset] [])) _
      refine XS.iconst X18.here hx rfl (hb hby at_18) ?_
      show Steps p.tables e below (T18.setTop (mkF m 19 #[.val (.int p0_0), .val (.int (3 : Int32)), .val (.ref u_LESS_EQUAL), .unset, .unset, .unset] [(.int (1 : Int32))])) _
      refine XS.goto X18.here hx rfl (pc0 := 19) (pc' := 23) rfl (hb hby at_19) (by decide) (by decide) ?_
      show Steps p.tables e below (T18.setTop (mkF m 23 #[.val (.int p0_0), .val (.int (3 : Int32)), .val (.ref u_LESS_EQUAL), .unset, .unset, .unset] [(.int (1 : Int32))])) _
      refine XS.istoreN X18.here hx rfl (hb hby at_23) rfl (l' := #[.val (.int p0_0), .val (.int (3 : Int32)), .val (.ref u_LESS_EQUAL), .val (.int (1 : Int32)), .unset, .unset]) rfl ?_
      show Steps p.tables e below (T18.setTop (mkF m 24 #[.val (.int p0_0), .val (.int (3 : Int32)), .val (.ref u_LESS_EQUAL), .val (.int (1 : Int32)), .unset, .unset] [])) _
      refine XS.aloadN X18.here hx rfl (hb hby at_24) rfl rfl ?_
      show Steps p.tables e below (T18.setTop (mkF m 25 #[.val (.int p0_0), .val (.int (3 : Int32)), .val (.ref u_LESS_EQUAL), .val (.int (1 : Int32)), .unset, .unset] [(.ref u_LESS_EQUAL)])) _
      refine st19.trans ?_
      show Steps p.tables e below (T19.setTop (mkF m 28 #[.val (.int p0_0), .val (.int (3 : Int32)), .val (.ref u_LESS_EQUAL), .val (.int (1 : Int32)), .unset, .unset] [(.int (1 : Int32))])) _
      refine XS.istore X19.here hx rfl (hb hby at_28) rfl (l' := #[.val (.int p0_0), .val (.int (3 : Int32)), .val (.ref u_LESS_EQUAL), .val (.int (1 : Int32)), .val (.int (1 : Int32)), .unset]) rfl ?_
      show Steps p.tables e below (T19.setTop (mkF m 30 #[.val (.int p0_0), .val (.int (3 : Int32)), .val (.ref u_LESS_EQUAL), .val (.int (1 : Int32)), .val (.int (1 : Int32)), .unset] [])) _
      refine XS.aloadN X19.here hx rfl (hb hby at_30) rfl rfl ?_
      show Steps p.tables e below (T19.setTop (mkF m 31 #[.val (.int p0_0), .val (.int (3 : Int32)), .val (.ref u_LESS_EQUAL), .val (.int (1 : Int32)), .val (.int (1 : Int32)), .unset] [(.ref u_LESS_EQUAL)])) _
      refine XS.iconst X19.here hx rfl (hb hby at_31) ?_
      show Steps p.tables e below (T19.setTop (mkF m 32 #[.val (.int p0_0), .val (.int (3 : Int32)), .val (.ref u_LESS_EQUAL), .val (.int (1 : Int32)), .val (.int (1 : Int32)), .unset] [(.int (-1 : Int32)), (.ref u_LESS_EQUAL)])) _
      refine st20.trans ?_
      show Steps p.tables e below (T20.setTop (mkF m 35 #[.val (.int p0_0), .val (.int (3 : Int32)), .val (.ref u_LESS_EQUAL), .val (.int (1 : Int32)), .val (.int (1 : Int32)), .unset] [(.int (1 : Int32))])) _
      refine XS.aloadN X20.here hx rfl (hb hby at_35) rfl rfl ?_
      show Steps p.tables e below (T20.setTop (mkF m 36 #[.val (.int p0_0), .val (.int (3 : Int32)), .val (.ref u_LESS_EQUAL), .val (.int (1 : Int32)), .val (.int (1 : Int32)), .unset] [(.ref u_LESS_EQUAL), (.int (1 : Int32))])) _
      refine XS.iconst X20.here hx rfl (hb hby at_36) ?_
      show Steps p.tables e below (T20.setTop (mkF m 37 #[.val (.int p0_0), .val (.int (3 : Int32)), .val (.ref u_LESS_EQUAL), .val (.int (1 : Int32)), .val (.int (1 : Int32)), .unset] [(.int (1 : Int32)), (.ref u_LESS_EQUAL), (.int (1 : Int32))])) _
      refine st21.trans ?_
      show Steps p.tables e below (T21.setTop (mkF m 40 #[.val (.int p0_0), .val (.int (3 : Int32)), .val (.ref u_LESS_EQUAL), .val (.int (1 : Int32)), .val (.int (1 : Int32)), .unset] [(.int (0 : Int32)), (.int (1 : Int32))])) _
      refine XS.icmpNo X21.here hx rfl (hb hby at_40) rfl (feq (by decide : ¬ ((1 : Int32) = (0 : Int32)))).1 ?_
      show Steps p.tables e below (T21.setTop (mkF m 43 #[.val (.int p0_0), .val (.int (3 : Int32)), .val (.ref u_LESS_EQUAL), .val (.int (1 : Int32)), .val (.int (1 : Int32)), .unset] [])) _
      refine XS.iconst X21.here hx rfl (hb hby at_43) ?_
      show Steps p.tables e below (T21.setTop (mkF m 44 #[.val (.int p0_0), .val (.int (3 : Int32)), .val (.ref u_LESS_EQUAL), .val (.int (1 : Int32)), .val (.int (1 : Int32)), .unset] [(.int (1 : Int32))])) _
      refine XS.goto X21.here hx rfl (pc0 := 44) (pc' := 48) rfl (hb hby at_44) (by decide) (by decide) ?_
      show Steps p.tables e below (T21.setTop (mkF m 48 #[.val (.int p0_0), .val (.int (3 : Int32)), .val (.ref u_LESS_EQUAL), .val (.int (1 : Int32)), .val (.int (1 : Int32)), .unset] [(.int (1 : Int32))])) _
      refine XS.istore X21.here hx rfl (hb hby at_48) rfl (l' := #[.val (.int p0_0), .val (.int (3 : Int32)), .val (.ref u_LESS_EQUAL), .val (.int (1 : Int32)), .val (.int (1 : Int32)), .val (.int (1 : Int32))]) rfl ?_
      show Steps p.tables e below (T21.setTop (mkF m 50 #[.val (.int p0_0), .val (.int (3 : Int32)), .val (.ref u_LESS_EQUAL), .val (.int (1 : Int32)), .val (.int (1 : Int32)), .val (.int (1 : Int32))] [])) _
      refine XS.iload X21.here hx rfl (hb hby at_50) rfl ?_
      show Steps p.tables e below (T21.setTop (mkF m 52 #[.val (.int p0_0), .val (.int (3 : Int32)), .val (.ref u_LESS_EQUAL), .val (.int (1 : Int32)), .val (.int (1 : Int32)), .val (.int (1 : Int32))] [(.int (1 : Int32))])) _
      refine XS.iloadN X21.here hx rfl (hb hby at_52) rfl ?_
      show Steps p.tables e below (T21.setTop (mkF m 53 #[.val (.int p0_0), .val (.int (3 : Int32)), .val (.ref u_LESS_EQUAL), .val (.int (1 : Int32)), .val (.int (1 : Int32)), .val (.int (1 : Int32))] [(.int (1 : Int32)), (.int (1 : Int32))])) _
      refine XS.icmpNo X21.here hx rfl (hb hby at_53) rfl (teq (by decide : (1 : Int32) = (1 : Int32))).2 ?_
      show Steps p.tables e below (T21.setTop (mkF m 56 #[.val (.int p0_0), .val (.int (3 : Int32)), .val (.ref u_LESS_EQUAL), .val (.int (1 : Int32)), .val (.int (1 : Int32)), .val (.int (1 : Int32))] [])) _
      refine XS.iload X21.here hx rfl (hb hby at_56) rfl ?_
      show Steps p.tables e below (T21.setTop (mkF m 58 #[.val (.int p0_0), .val (.int (3 : Int32)), .val (.ref u_LESS_EQUAL), .val (.int (1 : Int32)), .val (.int (1 : Int32)), .val (.int (1 : Int32))] [(.int (1 : Int32))])) _
      refine XS.iload X21.here hx rfl (hb hby at_58) rfl ?_
      show Steps p.tables e below (T21.setTop (mkF m 60 #[.val (.int p0_0), .val (.int (3 : Int32)), .val (.ref u_LESS_EQUAL), .val (.int (1 : Int32)), .val (.int (1 : Int32)), .val (.int (1 : Int32))] [(.int (1 : Int32)), (.int (1 : Int32))])) _
      refine XS.icmpNo X21.here hx rfl (hb hby at_60) rfl (teq (by decide : (1 : Int32) = (1 : Int32))).2 ?_
      show Steps p.tables e below (T21.setTop (mkF m 63 #[.val (.int p0_0), .val (.int (3 : Int32)), .val (.ref u_LESS_EQUAL), .val (.int (1 : Int32)), .val (.int (1 : Int32)), .val (.int (1 : Int32))] [])) _
      refine XS.iconst X21.here hx rfl (hb hby at_63) ?_
      show Steps p.tables e below (T21.setTop (mkF m 64 #[.val (.int p0_0), .val (.int (3 : Int32)), .val (.ref u_LESS_EQUAL), .val (.int (1 : Int32)), .val (.int (1 : Int32)), .val (.int (1 : Int32))] [(.int (1 : Int32))])) _
      refine XS.goto X21.here hx rfl (pc0 := 64) (pc' := 68) rfl (hb hby at_64) (by decide) (by decide) ?_
      exact k
    obtain ⟨fs, hr, hrun, hended, hW, hsame⟩ := X21.leave (v := some (.int (1 : Int32))) (fun h => by rw [Bd.returns] at h; cases h)
    refine ⟨_, _, k22 _ ?_, hrun, hended, _, _, rfl, ?_, ⟨_, rfl⟩, hW, hsame.mono (by decide) (by decide)⟩
    · exact retN X21 hx (t := .boolean) Bd.returns (by simp) (hb hby at_68) hr
    · show Q0 Z p0_0 u_EQUAL u_LESS_EQUAL u_NOT_EQUAL u_LESS u_GREATER_EQUAL u_GREATER h0 n0 _ T21.heap _
      rw [eh21]
      exact ⟨rfl, N21⟩
  · skip
    obtain ⟨_, _, ⟨T23, L23, k23, n23⟩, -, X23, ⟨Lc23, hQ23, l23, y23, z23⟩, st23⟩ := Jvm.LawKit.callS X0 hx (y := (⟨"com/example/chop/chop/model/RelationIsBoundPinLaw", "pick", "(I)Lcom/example/chop/chop/model/Relation;"⟩ : MethodName)) hown (mvT hZ (hw _ (List.mem_of_getElem? (i := 1) rfl))) (mvT hZ (hw _ (List.mem_of_getElem? (i := 2) rfl))) (mvT hZ (hw _ (List.mem_of_getElem? (i := 3) rfl))) (mvT hZ (hw _ (List.mem_of_getElem? (i := 4) rfl))) (by decide) (backOf (W := 0) (rm23 l Z a0 hw [] u_GREATER h0 n0 Z0 S_GREATER) hZ (hw _ (List.mem_of_getElem? (i := 4) rfl)) (hw _ (List.mem_of_getElem? (i := 3) rfl)) (by decide) (by decide)) (g := (mkF m 9 #[.val (.int p0_0), .val (.int (4 : Int32)), .unset, .unset, .unset, .unset] [(.int (4 : Int32))])) rfl (by rw [hml]; rfl) (argsL := [(.int (4 : Int32))]) (rest := []) (lenOf pd_1 rfl) rfl (by show 2 * 0 + _ ≤ _; exact Nat.le_of_eq rfl) (hb hby at_9) (fun _ _ => ⟨rfl, e0, (by decide : 0 + 0 ≤ _), (by decide : 0 + 0 ≤ _)⟩)
    dsimp only [Pt.U, Pt.locs, Pt.cells, Pt.slots] at X23 l23 y23 z23 st23 hQ23
    subst l23 y23 z23
    obtain ⟨rfl, N23q, eh23⟩ := hQ23
    have N23 := Fr.app N0 N23q
    obtain ⟨cq24, kq24, q24a, q24b, q24c⟩ := isOf hZ eh23 E_u_GREATER
    obtain ⟨_, _, ⟨T24, L24, k24, n24⟩, -, X24, ⟨Lc24, hQ24, l24, y24, z24⟩, st24⟩ := X23.virtualBack hx (y := (⟨"com/example/chop/chop/model/Relation", "isBound", "()Z"⟩ : MethodName)) (z := (⟨"com/example/chop/chop/model/Relation", "isBound", "()Z"⟩ : MethodName)) hown (mvT hZ (hw _ (List.mem_of_getElem? (i := 8) rfl))) (mvT hZ (hw _ (List.mem_of_getElem? (i := 9) rfl))) (notFace_of_selects (args := #[]) (mvT hZ (hw _ (List.mem_of_getElem? (i := 11) rfl)))) (mvT hZ (hw _ (List.mem_of_getElem? (i := 11) rfl))) (mvT hZ (hw _ (List.mem_of_getElem? (i := 10) rfl))) (by decide) (backOf (W := 0) (rm22 l Z a0 hw [] u_GREATER u_EQUAL u_NOT_EQUAL h0 n0 Z0 S_EQUAL S_NOT_EQUAL (Ne.symm ne_EQUAL_GREATER) (Ne.symm ne_NOT_EQUAL_GREATER)) hZ (hw _ (List.mem_of_getElem? (i := 12) rfl)) (hw _ (List.mem_of_getElem? (i := 6) rfl)) (by decide) (by decide)) q24a q24c (g := (mkF m 25 #[.val (.int p0_0), .val (.int (4 : Int32)), .val (.ref u_GREATER), .val (.int (1 : Int32)), .unset, .unset] [(.ref u_GREATER)])) rfl (by rw [hml]; rfl) (Steps.refl _) (argsL := []) (rest := []) (lenOf pd_2 rfl) rfl (by show 2 * 0 + _ ≤ _; exact Nat.le_of_eq rfl) (hb hby at_25) (fun _ _ => ⟨rfl, eh23, (by decide : 0 + 0 ≤ _), (by decide : 0 + 0 ≤ _)⟩)
    dsimp only [Pt.U, Pt.locs, Pt.cells, Pt.slots] at X24 l24 y24 z24 st24 hQ24
    subst l24 y24 z24
    obtain ⟨rfl, N24q, eh24⟩ := hQ24
    have N24 := Fr.app N23 N24q
    obtain ⟨cq25, kq25, q25a, q25b, q25c⟩ := isOf hZ eh24 E_u_GREATER
    obtain ⟨_, _, ⟨T25, L25, k25, n25⟩, -, X25, ⟨Lc25, hQ25, l25, y25, z25⟩, st25⟩ := X24.virtualBack hx (y := (⟨"com/example/chop/chop/model/Relation", "holds", "(I)Z"⟩ : MethodName)) (z := (⟨"com/example/chop/chop/model/Relation", "holds", "(I)Z"⟩ : MethodName)) hown (mvT hZ (hw _ (List.mem_of_getElem? (i := 14) rfl))) (mvT hZ (hw _ (List.mem_of_getElem? (i := 15) rfl))) (notFace_of_selects (args := #[]) (mvT hZ (hw _ (List.mem_of_getElem? (i := 17) rfl)))) (mvT hZ (hw _ (List.mem_of_getElem? (i := 17) rfl))) (mvT hZ (hw _ (List.mem_of_getElem? (i := 16) rfl))) (by decide) (backOf (W := 0) (rm24 l Z a0 hw [] u_GREATER h0 n0 Z0 E_u_GREATER F_u_GREATER_ordinal) hZ (hw _ (List.mem_of_getElem? (i := 18) rfl)) (hw _ (List.mem_of_getElem? (i := 6) rfl)) (by decide) (by decide)) q25a q25c (g := (mkF m 32 #[.val (.int p0_0), .val (.int (4 : Int32)), .val (.ref u_GREATER), .val (.int (1 : Int32)), .val (.int (1 : Int32)), .unset] [(.int (-1 : Int32)), (.ref u_GREATER)])) rfl (by rw [hml]; rfl) (Steps.refl _) (argsL := [(.int (-1 : Int32))]) (rest := []) (lenOf pd_3 rfl) rfl (by show 2 * 0 + _ ≤ _; exact Nat.le_of_eq rfl) (hb hby at_32) (fun _ _ => ⟨rfl, eh24, (by decide : 0 + 0 ≤ _), (by decide : 0 + 0 ≤ _)⟩)
    dsimp only [Pt.U, Pt.locs, Pt.cells, Pt.slots] at X25 l25 y25 z25 st25 hQ25
    subst l25 y25 z25
    obtain ⟨rfl, N25q, eh25⟩ := hQ25
    have N25 := Fr.app N24 N25q
    obtain ⟨cq26, kq26, q26a, q26b, q26c⟩ := isOf hZ eh25 E_u_GREATER
    obtain ⟨_, _, ⟨T26, L26, k26, n26⟩, -, X26, ⟨Lc26, hQ26, l26, y26, z26⟩, st26⟩ := X25.virtualBack hx (y := (⟨"com/example/chop/chop/model/Relation", "holds", "(I)Z"⟩ : MethodName)) (z := (⟨"com/example/chop/chop/model/Relation", "holds", "(I)Z"⟩ : MethodName)) hown (mvT hZ (hw _ (List.mem_of_getElem? (i := 14) rfl))) (mvT hZ (hw _ (List.mem_of_getElem? (i := 15) rfl))) (notFace_of_selects (args := #[]) (mvT hZ (hw _ (List.mem_of_getElem? (i := 17) rfl)))) (mvT hZ (hw _ (List.mem_of_getElem? (i := 17) rfl))) (mvT hZ (hw _ (List.mem_of_getElem? (i := 16) rfl))) (by decide) (backOf (W := 1) (rm25 l Z a0 hw [] u_GREATER h0 n0 Z0 E_u_GREATER F_u_GREATER_ordinal) hZ (hw _ (List.mem_of_getElem? (i := 18) rfl)) (hw _ (List.mem_of_getElem? (i := 6) rfl)) (by decide) (by decide)) q26a q26c (g := (mkF m 37 #[.val (.int p0_0), .val (.int (4 : Int32)), .val (.ref u_GREATER), .val (.int (1 : Int32)), .val (.int (1 : Int32)), .unset] [(.int (1 : Int32)), (.ref u_GREATER), (.int (0 : Int32))])) rfl (by rw [hml]; rfl) (Steps.refl _) (argsL := [(.int (1 : Int32))]) (rest := [(.int (0 : Int32))]) (lenOf pd_3 rfl) rfl (by show 2 * 0 + _ ≤ _; exact Nat.le_of_eq rfl) (hb hby at_37) (fun _ _ => ⟨rfl, eh25, (by decide : 0 + 0 ≤ _), (by decide : 0 + 0 ≤ _)⟩)
    dsimp only [Pt.U, Pt.locs, Pt.cells, Pt.slots] at X26 l26 y26 z26 st26 hQ26
    subst l26 y26 z26
    obtain ⟨rfl, N26q, eh26⟩ := hQ26
    have N26 := Fr.app N25 N26q
    have k27 : ∀ t, Steps p.tables e below (T26.setTop (mkF m 68 #[.val (.int p0_0), .val (.int (4 : Int32)), .val (.ref u_GREATER), .val (.int (1 : Int32)), .val (.int (1 : Int32)), .val (.int (1 : Int32))] [(.int (1 : Int32))])) t → Steps p.tables e below (s₁.setTop (entryFrame m #[(.int p0_0)] maxLocals)) t := by
      intro t k
      refine k1 t ?_
      show Steps p.tables e below (s₁.setTop (mkF m 8 #[.val (.int p0_0), .val (.int (4 : Int32)), .unset, .unset, .unset, .unset] [])) _
      refine XS.iloadN X0.here hx rfl (hb hby at_8) rfl ?_
      show Steps p.tables e below (s₁.setTop (mkF m 9 #[.val (.int p0_0), .val (.int (4 : Int32)), .unset, .unset, .unset, .unset] [(.int (4 : Int32))])) _
      refine st23 _ ?_
      show Steps p.tables e below (T23.setTop (mkF m 12 #[.val (.int p0_0), .val (.int (4 : Int32)), .unset, .unset, .unset, .unset] [(.ref u_GREATER)])) _
      refine XS.astoreN X23.here hx rfl (hb hby at_12) rfl rfl (l' := #[.val (.int p0_0), .val (.int (4 : Int32)), .val (.ref u_GREATER), .unset, .unset, .unset]) rfl ?_
      show Steps p.tables e below (T23.setTop (mkF m 13 #[.val (.int p0_0), .val (.int (4 : Int32)), .val (.ref u_GREATER), .unset, .unset, .unset] [])) _
      refine XS.iloadN X23.here hx rfl (hb hby at_13) rfl ?_
      show Steps p.tables e below (T23.setTop (mkF m 14 #[.val (.int p0_0), .val (.int (4 : Int32)), .val (.ref u_GREATER), .unset, .unset, .unset] [(.int (4 : Int32))])) _
      refine XS.iconst X23.here hx rfl (hb hby at_14) ?_
      show Steps p.tables e below (T23.setTop (mkF m 15 #[.val (.int p0_0), .val (.int (4 : Int32)), .val (.ref u_GREATER), .unset, .unset, .unset] [(.int (2 : Int32)), (.int (4 : Int32))])) _
      refine XS.icmpNo X23.here hx rfl (hb hby at_15) rfl (flt (by decide : ¬ ((4 : Int32) < (2 : Int32)))).1 ?_
      show Steps p.tables e below (T23.setTop (mkF m 18 #[.val (.int p0_0), .val (.int (4 : Int32)), .val (.ref u_GREATER), .unset, .unset, .unset] [])) _
      refine XS.iconst X23.here hx rfl (hb hby at_18) ?_
      show Steps p.tables e below (T23.setTop (mkF m 19 #[.val (.int p0_0), .val (.int (4 : Int32)), .val (.ref u_GREATER), .unset, .unset, .unset] [(.int (1 : Int32))])) _
      refine XS.goto X23.here hx rfl (pc0 := 19) (pc' := 23) rfl (hb hby at_19) (by decide) (by decide) ?_
      show Steps p.tables e below (T23.setTop (mkF m 23 #[.val (.int p0_0), .val (.int (4 : Int32)), .val (.ref u_GREATER), .unset, .unset, .unset] [(.int (1 : Int32))])) _
      refine XS.istoreN X23.here hx rfl (hb hby at_23) rfl (l' := #[.val (.int p0_0), .val (.int (4 : Int32)), .val (.ref u_GREATER), .val (.int (1 : Int32)), .unset, .unset]) rfl ?_
      show Steps p.tables e below (T23.setTop (mkF m 24 #[.val (.int p0_0), .val (.int (4 : Int32)), .val (.ref u_GREATER), .val (.int (1 : Int32)), .unset, .unset] [])) _
      refine XS.aloadN X23.here hx rfl (hb hby at_24) rfl rfl ?_
      show Steps p.tables e below (T23.setTop (mkF m 25 #[.val (.int p0_0), .val (.int (4 : Int32)), .val (.ref u_GREATER), .val (.int (1 : Int32)), .unset, .unset] [(.ref u_GREATER)])) _
      refine st24.trans ?_
      show Steps p.tables e below (T24.setTop (mkF m 28 #[.val (.int p0_0), .val (.int (4 : Int32)), .val (.ref u_GREATER), .val (.int (1 : Int32)), .unset, .unset] [(.int (1 : Int32))])) _
      refine XS.istore X24.here hx rfl (hb hby at_28) rfl (l' := #[.val (.int p0_0), .val (.int (4 : Int32)), .val (.ref u_GREATER), .val (.int (1 : Int32)), .val (.int (1 : Int32)), .unset]) rfl ?_
      show Steps p.tables e below (T24.setTop (mkF m 30 #[.val (.int p0_0), .val (.int (4 : Int32)), .val (.ref u_GREATER), .val (.int (1 : Int32)), .val (.int (1 : Int32)), .unset] [])) _
      refine XS.aloadN X24.here hx rfl (hb hby at_30) rfl rfl ?_
      show Steps p.tables e below (T24.setTop (mkF m 31 #[.val (.int p0_0), .val (.int (4 : Int32)), .val (.ref u_GREATER), .val (.int (1 : Int32)), .val (.int (1 : Int32)), .unset] [(.ref u_GREATER)])) _
      refine XS.iconst X24.here hx rfl (hb hby at_31) ?_
      show Steps p.tables e below (T24.setTop (mkF m 32 #[.val (.int p0_0), .val (.int (4 : Int32)), .val (.ref u_GREATER), .val (.int (1 : Int32)), .val (.int (1 : Int32)), .unset] [(.int (-1 : Int32)), (.ref u_GREATER)])) _
      refine st25.trans ?_
      show Steps p.tables e below (T25.setTop (mkF m 35 #[.val (.int p0_0), .val (.int (4 : Int32)), .val (.ref u_GREATER), .val (.int (1 : Int32)), .val (.int (1 : Int32)), .unset] [(.int (0 : Int32))])) _
      refine XS.aloadN X25.here hx rfl (hb hby at_35) rfl rfl ?_
      show Steps p.tables e below (T25.setTop (mkF m 36 #[.val (.int p0_0), .val (.int (4 : Int32)), .val (.ref u_GREATER), .val (.int (1 : Int32)), .val (.int (1 : Int32)), .unset] [(.ref u_GREATER), (.int (0 : Int32))])) _
      refine XS.iconst X25.here hx rfl (hb hby at_36) ?_
      show Steps p.tables e below (T25.setTop (mkF m 37 #[.val (.int p0_0), .val (.int (4 : Int32)), .val (.ref u_GREATER), .val (.int (1 : Int32)), .val (.int (1 : Int32)), .unset] [(.int (1 : Int32)), (.ref u_GREATER), (.int (0 : Int32))])) _
      refine st26.trans ?_
      show Steps p.tables e below (T26.setTop (mkF m 40 #[.val (.int p0_0), .val (.int (4 : Int32)), .val (.ref u_GREATER), .val (.int (1 : Int32)), .val (.int (1 : Int32)), .unset] [(.int (1 : Int32)), (.int (0 : Int32))])) _
      refine XS.icmpNo X26.here hx rfl (hb hby at_40) rfl (feq (by decide : ¬ ((0 : Int32) = (1 : Int32)))).1 ?_
      show Steps p.tables e below (T26.setTop (mkF m 43 #[.val (.int p0_0), .val (.int (4 : Int32)), .val (.ref u_GREATER), .val (.int (1 : Int32)), .val (.int (1 : Int32)), .unset] [])) _
      refine XS.iconst X26.here hx rfl (hb hby at_43) ?_
      show Steps p.tables e below (T26.setTop (mkF m 44 #[.val (.int p0_0), .val (.int (4 : Int32)), .val (.ref u_GREATER), .val (.int (1 : Int32)), .val (.int (1 : Int32)), .unset] [(.int (1 : Int32))])) _
      refine XS.goto X26.here hx rfl (pc0 := 44) (pc' := 48) rfl (hb hby at_44) (by decide) (by decide) ?_
      show Steps p.tables e below (T26.setTop (mkF m 48 #[.val (.int p0_0), .val (.int (4 : Int32)), .val (.ref u_GREATER), .val (.int (1 : Int32)), .val (.int (1 : Int32)), .unset] [(.int (1 : Int32))])) _
      refine XS.istore X26.here hx rfl (hb hby at_48) rfl (l' := #[.val (.int p0_0), .val (.int (4 : Int32)), .val (.ref u_GREATER), .val (.int (1 : Int32)), .val (.int (1 : Int32)), .val (.int (1 : Int32))]) rfl ?_
      show Steps p.tables e below (T26.setTop (mkF m 50 #[.val (.int p0_0), .val (.int (4 : Int32)), .val (.ref u_GREATER), .val (.int (1 : Int32)), .val (.int (1 : Int32)), .val (.int (1 : Int32))] [])) _
      refine XS.iload X26.here hx rfl (hb hby at_50) rfl ?_
      show Steps p.tables e below (T26.setTop (mkF m 52 #[.val (.int p0_0), .val (.int (4 : Int32)), .val (.ref u_GREATER), .val (.int (1 : Int32)), .val (.int (1 : Int32)), .val (.int (1 : Int32))] [(.int (1 : Int32))])) _
      refine XS.iloadN X26.here hx rfl (hb hby at_52) rfl ?_
      show Steps p.tables e below (T26.setTop (mkF m 53 #[.val (.int p0_0), .val (.int (4 : Int32)), .val (.ref u_GREATER), .val (.int (1 : Int32)), .val (.int (1 : Int32)), .val (.int (1 : Int32))] [(.int (1 : Int32)), (.int (1 : Int32))])) _
      refine XS.icmpNo X26.here hx rfl (hb hby at_53) rfl (teq (by decide : (1 : Int32) = (1 : Int32))).2 ?_
      show Steps p.tables e below (T26.setTop (mkF m 56 #[.val (.int p0_0), .val (.int (4 : Int32)), .val (.ref u_GREATER), .val (.int (1 : Int32)), .val (.int (1 : Int32)), .val (.int (1 : Int32))] [])) _
      refine XS.iload X26.here hx rfl (hb hby at_56) rfl ?_
      show Steps p.tables e below (T26.setTop (mkF m 58 #[.val (.int p0_0), .val (.int (4 : Int32)), .val (.ref u_GREATER), .val (.int (1 : Int32)), .val (.int (1 : Int32)), .val (.int (1 : Int32))] [(.int (1 : Int32))])) _
      refine XS.iload X26.here hx rfl (hb hby at_58) rfl ?_
      show Steps p.tables e below (T26.setTop (mkF m 60 #[.val (.int p0_0), .val (.int (4 : Int32)), .val (.ref u_GREATER), .val (.int (1 : Int32)), .val (.int (1 : Int32)), .val (.int (1 : Int32))] [(.int (1 : Int32)), (.int (1 : Int32))])) _
      refine XS.icmpNo X26.here hx rfl (hb hby at_60) rfl (teq (by decide : (1 : Int32) = (1 : Int32))).2 ?_
      show Steps p.tables e below (T26.setTop (mkF m 63 #[.val (.int p0_0), .val (.int (4 : Int32)), .val (.ref u_GREATER), .val (.int (1 : Int32)), .val (.int (1 : Int32)), .val (.int (1 : Int32))] [])) _
      refine XS.iconst X26.here hx rfl (hb hby at_63) ?_
      show Steps p.tables e below (T26.setTop (mkF m 64 #[.val (.int p0_0), .val (.int (4 : Int32)), .val (.ref u_GREATER), .val (.int (1 : Int32)), .val (.int (1 : Int32)), .val (.int (1 : Int32))] [(.int (1 : Int32))])) _
      refine XS.goto X26.here hx rfl (pc0 := 64) (pc' := 68) rfl (hb hby at_64) (by decide) (by decide) ?_
      exact k
    obtain ⟨fs, hr, hrun, hended, hW, hsame⟩ := X26.leave (v := some (.int (1 : Int32))) (fun h => by rw [Bd.returns] at h; cases h)
    refine ⟨_, _, k27 _ ?_, hrun, hended, _, _, rfl, ?_, ⟨_, rfl⟩, hW, hsame.mono (by decide) (by decide)⟩
    · exact retN X26 hx (t := .boolean) Bd.returns (by simp) (hb hby at_68) hr
    · show Q0 Z p0_0 u_EQUAL u_LESS_EQUAL u_NOT_EQUAL u_LESS u_GREATER_EQUAL u_GREATER h0 n0 _ T26.heap _
      rw [eh26]
      exact ⟨rfl, N26⟩
  · skip
    obtain ⟨_, _, ⟨T28, L28, k28, n28⟩, -, X28, ⟨Lc28, hQ28, l28, y28, z28⟩, st28⟩ := Jvm.LawKit.callS X0 hx (y := (⟨"com/example/chop/chop/model/RelationIsBoundPinLaw", "pick", "(I)Lcom/example/chop/chop/model/Relation;"⟩ : MethodName)) hown (mvT hZ (hw _ (List.mem_of_getElem? (i := 1) rfl))) (mvT hZ (hw _ (List.mem_of_getElem? (i := 2) rfl))) (mvT hZ (hw _ (List.mem_of_getElem? (i := 3) rfl))) (mvT hZ (hw _ (List.mem_of_getElem? (i := 4) rfl))) (by decide) (backOf (W := 0) (rm28 l Z a0 hw [] u_GREATER_EQUAL h0 n0 Z0 S_GREATER_EQUAL) hZ (hw _ (List.mem_of_getElem? (i := 4) rfl)) (hw _ (List.mem_of_getElem? (i := 3) rfl)) (by decide) (by decide)) (g := (mkF m 9 #[.val (.int p0_0), .val (.int (5 : Int32)), .unset, .unset, .unset, .unset] [(.int (5 : Int32))])) rfl (by rw [hml]; rfl) (argsL := [(.int (5 : Int32))]) (rest := []) (lenOf pd_1 rfl) rfl (by show 2 * 0 + _ ≤ _; exact Nat.le_of_eq rfl) (hb hby at_9) (fun _ _ => ⟨rfl, e0, (by decide : 0 + 0 ≤ _), (by decide : 0 + 0 ≤ _)⟩)
    dsimp only [Pt.U, Pt.locs, Pt.cells, Pt.slots] at X28 l28 y28 z28 st28 hQ28
    subst l28 y28 z28
    obtain ⟨rfl, N28q, eh28⟩ := hQ28
    have N28 := Fr.app N0 N28q
    obtain ⟨cq29, kq29, q29a, q29b, q29c⟩ := isOf hZ eh28 E_u_GREATER_EQUAL
    obtain ⟨_, _, ⟨T29, L29, k29, n29⟩, -, X29, ⟨Lc29, hQ29, l29, y29, z29⟩, st29⟩ := X28.virtualBack hx (y := (⟨"com/example/chop/chop/model/Relation", "isBound", "()Z"⟩ : MethodName)) (z := (⟨"com/example/chop/chop/model/Relation", "isBound", "()Z"⟩ : MethodName)) hown (mvT hZ (hw _ (List.mem_of_getElem? (i := 8) rfl))) (mvT hZ (hw _ (List.mem_of_getElem? (i := 9) rfl))) (notFace_of_selects (args := #[]) (mvT hZ (hw _ (List.mem_of_getElem? (i := 11) rfl)))) (mvT hZ (hw _ (List.mem_of_getElem? (i := 11) rfl))) (mvT hZ (hw _ (List.mem_of_getElem? (i := 10) rfl))) (by decide) (backOf (W := 0) (rm27 l Z a0 hw [] u_GREATER_EQUAL u_EQUAL u_NOT_EQUAL h0 n0 Z0 S_EQUAL S_NOT_EQUAL (Ne.symm ne_EQUAL_GREATER_EQUAL) (Ne.symm ne_NOT_EQUAL_GREATER_EQUAL)) hZ (hw _ (List.mem_of_getElem? (i := 12) rfl)) (hw _ (List.mem_of_getElem? (i := 6) rfl)) (by decide) (by decide)) q29a q29c (g := (mkF m 25 #[.val (.int p0_0), .val (.int (5 : Int32)), .val (.ref u_GREATER_EQUAL), .val (.int (1 : Int32)), .unset, .unset] [(.ref u_GREATER_EQUAL)])) rfl (by rw [hml]; rfl) (Steps.refl _) (argsL := []) (rest := []) (lenOf pd_2 rfl) rfl (by show 2 * 0 + _ ≤ _; exact Nat.le_of_eq rfl) (hb hby at_25) (fun _ _ => ⟨rfl, eh28, (by decide : 0 + 0 ≤ _), (by decide : 0 + 0 ≤ _)⟩)
    dsimp only [Pt.U, Pt.locs, Pt.cells, Pt.slots] at X29 l29 y29 z29 st29 hQ29
    subst l29 y29 z29
    obtain ⟨rfl, N29q, eh29⟩ := hQ29
    have N29 := Fr.app N28 N29q
    obtain ⟨cq30, kq30, q30a, q30b, q30c⟩ := isOf hZ eh29 E_u_GREATER_EQUAL
    obtain ⟨_, _, ⟨T30, L30, k30, n30⟩, -, X30, ⟨Lc30, hQ30, l30, y30, z30⟩, st30⟩ := X29.virtualBack hx (y := (⟨"com/example/chop/chop/model/Relation", "holds", "(I)Z"⟩ : MethodName)) (z := (⟨"com/example/chop/chop/model/Relation", "holds", "(I)Z"⟩ : MethodName)) hown (mvT hZ (hw _ (List.mem_of_getElem? (i := 14) rfl))) (mvT hZ (hw _ (List.mem_of_getElem? (i := 15) rfl))) (notFace_of_selects (args := #[]) (mvT hZ (hw _ (List.mem_of_getElem? (i := 17) rfl)))) (mvT hZ (hw _ (List.mem_of_getElem? (i := 17) rfl))) (mvT hZ (hw _ (List.mem_of_getElem? (i := 16) rfl))) (by decide) (backOf (W := 0) (rm29 l Z a0 hw [] u_GREATER_EQUAL h0 n0 Z0 E_u_GREATER_EQUAL F_u_GREATER_EQUAL_ordinal) hZ (hw _ (List.mem_of_getElem? (i := 18) rfl)) (hw _ (List.mem_of_getElem? (i := 6) rfl)) (by decide) (by decide)) q30a q30c (g := (mkF m 32 #[.val (.int p0_0), .val (.int (5 : Int32)), .val (.ref u_GREATER_EQUAL), .val (.int (1 : Int32)), .val (.int (1 : Int32)), .unset] [(.int (-1 : Int32)), (.ref u_GREATER_EQUAL)])) rfl (by rw [hml]; rfl) (Steps.refl _) (argsL := [(.int (-1 : Int32))]) (rest := []) (lenOf pd_3 rfl) rfl (by show 2 * 0 + _ ≤ _; exact Nat.le_of_eq rfl) (hb hby at_32) (fun _ _ => ⟨rfl, eh29, (by decide : 0 + 0 ≤ _), (by decide : 0 + 0 ≤ _)⟩)
    dsimp only [Pt.U, Pt.locs, Pt.cells, Pt.slots] at X30 l30 y30 z30 st30 hQ30
    subst l30 y30 z30
    obtain ⟨rfl, N30q, eh30⟩ := hQ30
    have N30 := Fr.app N29 N30q
    obtain ⟨cq31, kq31, q31a, q31b, q31c⟩ := isOf hZ eh30 E_u_GREATER_EQUAL
    obtain ⟨_, _, ⟨T31, L31, k31, n31⟩, -, X31, ⟨Lc31, hQ31, l31, y31, z31⟩, st31⟩ := X30.virtualBack hx (y := (⟨"com/example/chop/chop/model/Relation", "holds", "(I)Z"⟩ : MethodName)) (z := (⟨"com/example/chop/chop/model/Relation", "holds", "(I)Z"⟩ : MethodName)) hown (mvT hZ (hw _ (List.mem_of_getElem? (i := 14) rfl))) (mvT hZ (hw _ (List.mem_of_getElem? (i := 15) rfl))) (notFace_of_selects (args := #[]) (mvT hZ (hw _ (List.mem_of_getElem? (i := 17) rfl)))) (mvT hZ (hw _ (List.mem_of_getElem? (i := 17) rfl))) (mvT hZ (hw _ (List.mem_of_getElem? (i := 16) rfl))) (by decide) (backOf (W := 1) (rm30 l Z a0 hw [] u_GREATER_EQUAL h0 n0 Z0 E_u_GREATER_EQUAL F_u_GREATER_EQUAL_ordinal) hZ (hw _ (List.mem_of_getElem? (i := 18) rfl)) (hw _ (List.mem_of_getElem? (i := 6) rfl)) (by decide) (by decide)) q31a q31c (g := (mkF m 37 #[.val (.int p0_0), .val (.int (5 : Int32)), .val (.ref u_GREATER_EQUAL), .val (.int (1 : Int32)), .val (.int (1 : Int32)), .unset] [(.int (1 : Int32)), (.ref u_GREATER_EQUAL), (.int (0 : Int32))])) rfl (by rw [hml]; rfl) (Steps.refl _) (argsL := [(.int (1 : Int32))]) (rest := [(.int (0 : Int32))]) (lenOf pd_3 rfl) rfl (by show 2 * 0 + _ ≤ _; exact Nat.le_of_eq rfl) (hb hby at_37) (fun _ _ => ⟨rfl, eh30, (by decide : 0 + 0 ≤ _), (by decide : 0 + 0 ≤ _)⟩)
    dsimp only [Pt.U, Pt.locs, Pt.cells, Pt.slots] at X31 l31 y31 z31 st31 hQ31
    subst l31 y31 z31
    obtain ⟨rfl, N31q, eh31⟩ := hQ31
    have N31 := Fr.app N30 N31q
    have k32 : ∀ t, Steps p.tables e below (T31.setTop (mkF m 68 #[.val (.int p0_0), .val (.int (5 : Int32)), .val (.ref u_GREATER_EQUAL), .val (.int (1 : Int32)), .val (.int (1 : Int32)), .val (.int (1 : Int32))] [(.int (1 : Int32))])) t → Steps p.tables e below (s₁.setTop (entryFrame m #[(.int p0_0)] maxLocals)) t := by
      intro t k
      refine k1 t ?_
      show Steps p.tables e below (s₁.setTop (mkF m 8 #[.val (.int p0_0), .val (.int (5 : Int32)), .unset, .unset, .unset, .unset] [])) _
      refine XS.iloadN X0.here hx rfl (hb hby at_8) rfl ?_
      show Steps p.tables e below (s₁.setTop (mkF m 9 #[.val (.int p0_0), .val (.int (5 : Int32)), .unset, .unset, .unset, .unset] [(.int (5 : Int32))])) _
      refine st28 _ ?_
      show Steps p.tables e below (T28.setTop (mkF m 12 #[.val (.int p0_0), .val (.int (5 : Int32)), .unset, .unset, .unset, .unset] [(.ref u_GREATER_EQUAL)])) _
      refine XS.astoreN X28.here hx rfl (hb hby at_12) rfl rfl (l' := #[.val (.int p0_0), .val (.int (5 : Int32)), .val (.ref u_GREATER_EQUAL), .unset, .unset, .unset]) rfl ?_
      show Steps p.tables e below (T28.setTop (mkF m 13 #[.val (.int p0_0), .val (.int (5 : Int32)), .val (.ref u_GREATER_EQUAL), .unset, .unset, .unset] [])) _
      refine XS.iloadN X28.here hx rfl (hb hby at_13) rfl ?_
      show Steps p.tables e below (T28.setTop (mkF m 14 #[.val (.int p0_0), .val (.int (5 : Int32)), .val (.ref u_GREATER_EQUAL), .unset, .unset, .unset] [(.int (5 : Int32))])) _
      refine XS.iconst X28.here hx rfl (hb hby at_14) ?_
      show Steps p.tables e below (T28.setTop (mkF m 15 #[.val (.int p0_0), .val (.int (5 : Int32)), .val (.ref u_GREATER_EQUAL), .unset, .unset, .unset] [(.int (2 : Int32)), (.int (5 : Int32))])) _
      refine XS.icmpNo X28.here hx rfl (hb hby at_15) rfl (flt (by decide : ¬ ((5 : Int32) < (2 : Int32)))).1 ?_
      show Steps p.tables e below (T28.setTop (mkF m 18 #[.val (.int p0_0), .val (.int (5 : Int32)), .val (.ref u_GREATER_EQUAL), .unset, .unset, .unset] [])) _
      refine XS.iconst X28.here hx rfl (hb hby at_18) ?_
      show Steps p.tables e below (T28.setTop (mkF m 19 #[.val (.int p0_0), .val (.int (5 : Int32)), .val (.ref u_GREATER_EQUAL), .unset, .unset, .unset] [(.int (1 : Int32))])) _
      refine XS.goto X28.here hx rfl (pc0 := 19) (pc' := 23) rfl (hb hby at_19) (by decide) (by decide) ?_
      show Steps p.tables e below (T28.setTop (mkF m 23 #[.val (.int p0_0), .val (.int (5 : Int32)), .val (.ref u_GREATER_EQUAL), .unset, .unset, .unset] [(.int (1 : Int32))])) _
      refine XS.istoreN X28.here hx rfl (hb hby at_23) rfl (l' := #[.val (.int p0_0), .val (.int (5 : Int32)), .val (.ref u_GREATER_EQUAL), .val (.int (1 : Int32)), .unset, .unset]) rfl ?_
      show Steps p.tables e below (T28.setTop (mkF m 24 #[.val (.int p0_0), .val (.int (5 : Int32)), .val (.ref u_GREATER_EQUAL), .val (.int (1 : Int32)), .unset, .unset] [])) _
      refine XS.aloadN X28.here hx rfl (hb hby at_24) rfl rfl ?_
      show Steps p.tables e below (T28.setTop (mkF m 25 #[.val (.int p0_0), .val (.int (5 : Int32)), .val (.ref u_GREATER_EQUAL), .val (.int (1 : Int32)), .unset, .unset] [(.ref u_GREATER_EQUAL)])) _
      refine st29.trans ?_
      show Steps p.tables e below (T29.setTop (mkF m 28 #[.val (.int p0_0), .val (.int (5 : Int32)), .val (.ref u_GREATER_EQUAL), .val (.int (1 : Int32)), .unset, .unset] [(.int (1 : Int32))])) _
      refine XS.istore X29.here hx rfl (hb hby at_28) rfl (l' := #[.val (.int p0_0), .val (.int (5 : Int32)), .val (.ref u_GREATER_EQUAL), .val (.int (1 : Int32)), .val (.int (1 : Int32)), .unset]) rfl ?_
      show Steps p.tables e below (T29.setTop (mkF m 30 #[.val (.int p0_0), .val (.int (5 : Int32)), .val (.ref u_GREATER_EQUAL), .val (.int (1 : Int32)), .val (.int (1 : Int32)), .unset] [])) _
      refine XS.aloadN X29.here hx rfl (hb hby at_30) rfl rfl ?_
      show Steps p.tables e below (T29.setTop (mkF m 31 #[.val (.int p0_0), .val (.int (5 : Int32)), .val (.ref u_GREATER_EQUAL), .val (.int (1 : Int32)), .val (.int (1 : Int32)), .unset] [(.ref u_GREATER_EQUAL)])) _
      refine XS.iconst X29.here hx rfl (hb hby at_31) ?_
      show Steps p.tables e below (T29.setTop (mkF m 32 #[.val (.int p0_0), .val (.int (5 : Int32)), .val (.ref u_GREATER_EQUAL), .val (.int (1 : Int32)), .val (.int (1 : Int32)), .unset] [(.int (-1 : Int32)), (.ref u_GREATER_EQUAL)])) _
      refine st30.trans ?_
      show Steps p.tables e below (T30.setTop (mkF m 35 #[.val (.int p0_0), .val (.int (5 : Int32)), .val (.ref u_GREATER_EQUAL), .val (.int (1 : Int32)), .val (.int (1 : Int32)), .unset] [(.int (0 : Int32))])) _
      refine XS.aloadN X30.here hx rfl (hb hby at_35) rfl rfl ?_
      show Steps p.tables e below (T30.setTop (mkF m 36 #[.val (.int p0_0), .val (.int (5 : Int32)), .val (.ref u_GREATER_EQUAL), .val (.int (1 : Int32)), .val (.int (1 : Int32)), .unset] [(.ref u_GREATER_EQUAL), (.int (0 : Int32))])) _
      refine XS.iconst X30.here hx rfl (hb hby at_36) ?_
      show Steps p.tables e below (T30.setTop (mkF m 37 #[.val (.int p0_0), .val (.int (5 : Int32)), .val (.ref u_GREATER_EQUAL), .val (.int (1 : Int32)), .val (.int (1 : Int32)), .unset] [(.int (1 : Int32)), (.ref u_GREATER_EQUAL), (.int (0 : Int32))])) _
      refine st31.trans ?_
      show Steps p.tables e below (T31.setTop (mkF m 40 #[.val (.int p0_0), .val (.int (5 : Int32)), .val (.ref u_GREATER_EQUAL), .val (.int (1 : Int32)), .val (.int (1 : Int32)), .unset] [(.int (1 : Int32)), (.int (0 : Int32))])) _
      refine XS.icmpNo X31.here hx rfl (hb hby at_40) rfl (feq (by decide : ¬ ((0 : Int32) = (1 : Int32)))).1 ?_
      show Steps p.tables e below (T31.setTop (mkF m 43 #[.val (.int p0_0), .val (.int (5 : Int32)), .val (.ref u_GREATER_EQUAL), .val (.int (1 : Int32)), .val (.int (1 : Int32)), .unset] [])) _
      refine XS.iconst X31.here hx rfl (hb hby at_43) ?_
      show Steps p.tables e below (T31.setTop (mkF m 44 #[.val (.int p0_0), .val (.int (5 : Int32)), .val (.ref u_GREATER_EQUAL), .val (.int (1 : Int32)), .val (.int (1 : Int32)), .unset] [(.int (1 : Int32))])) _
      refine XS.goto X31.here hx rfl (pc0 := 44) (pc' := 48) rfl (hb hby at_44) (by decide) (by decide) ?_
      show Steps p.tables e below (T31.setTop (mkF m 48 #[.val (.int p0_0), .val (.int (5 : Int32)), .val (.ref u_GREATER_EQUAL), .val (.int (1 : Int32)), .val (.int (1 : Int32)), .unset] [(.int (1 : Int32))])) _
      refine XS.istore X31.here hx rfl (hb hby at_48) rfl (l' := #[.val (.int p0_0), .val (.int (5 : Int32)), .val (.ref u_GREATER_EQUAL), .val (.int (1 : Int32)), .val (.int (1 : Int32)), .val (.int (1 : Int32))]) rfl ?_
      show Steps p.tables e below (T31.setTop (mkF m 50 #[.val (.int p0_0), .val (.int (5 : Int32)), .val (.ref u_GREATER_EQUAL), .val (.int (1 : Int32)), .val (.int (1 : Int32)), .val (.int (1 : Int32))] [])) _
      refine XS.iload X31.here hx rfl (hb hby at_50) rfl ?_
      show Steps p.tables e below (T31.setTop (mkF m 52 #[.val (.int p0_0), .val (.int (5 : Int32)), .val (.ref u_GREATER_EQUAL), .val (.int (1 : Int32)), .val (.int (1 : Int32)), .val (.int (1 : Int32))] [(.int (1 : Int32))])) _
      refine XS.iloadN X31.here hx rfl (hb hby at_52) rfl ?_
      show Steps p.tables e below (T31.setTop (mkF m 53 #[.val (.int p0_0), .val (.int (5 : Int32)), .val (.ref u_GREATER_EQUAL), .val (.int (1 : Int32)), .val (.int (1 : Int32)), .val (.int (1 : Int32))] [(.int (1 : Int32)), (.int (1 : Int32))])) _
      refine XS.icmpNo X31.here hx rfl (hb hby at_53) rfl (teq (by decide : (1 : Int32) = (1 : Int32))).2 ?_
      show Steps p.tables e below (T31.setTop (mkF m 56 #[.val (.int p0_0), .val (.int (5 : Int32)), .val (.ref u_GREATER_EQUAL), .val (.int (1 : Int32)), .val (.int (1 : Int32)), .val (.int (1 : Int32))] [])) _
      refine XS.iload X31.here hx rfl (hb hby at_56) rfl ?_
      show Steps p.tables e below (T31.setTop (mkF m 58 #[.val (.int p0_0), .val (.int (5 : Int32)), .val (.ref u_GREATER_EQUAL), .val (.int (1 : Int32)), .val (.int (1 : Int32)), .val (.int (1 : Int32))] [(.int (1 : Int32))])) _
      refine XS.iload X31.here hx rfl (hb hby at_58) rfl ?_
      show Steps p.tables e below (T31.setTop (mkF m 60 #[.val (.int p0_0), .val (.int (5 : Int32)), .val (.ref u_GREATER_EQUAL), .val (.int (1 : Int32)), .val (.int (1 : Int32)), .val (.int (1 : Int32))] [(.int (1 : Int32)), (.int (1 : Int32))])) _
      refine XS.icmpNo X31.here hx rfl (hb hby at_60) rfl (teq (by decide : (1 : Int32) = (1 : Int32))).2 ?_
      show Steps p.tables e below (T31.setTop (mkF m 63 #[.val (.int p0_0), .val (.int (5 : Int32)), .val (.ref u_GREATER_EQUAL), .val (.int (1 : Int32)), .val (.int (1 : Int32)), .val (.int (1 : Int32))] [])) _
      refine XS.iconst X31.here hx rfl (hb hby at_63) ?_
      show Steps p.tables e below (T31.setTop (mkF m 64 #[.val (.int p0_0), .val (.int (5 : Int32)), .val (.ref u_GREATER_EQUAL), .val (.int (1 : Int32)), .val (.int (1 : Int32)), .val (.int (1 : Int32))] [(.int (1 : Int32))])) _
      refine XS.goto X31.here hx rfl (pc0 := 64) (pc' := 68) rfl (hb hby at_64) (by decide) (by decide) ?_
      exact k
    obtain ⟨fs, hr, hrun, hended, hW, hsame⟩ := X31.leave (v := some (.int (1 : Int32))) (fun h => by rw [Bd.returns] at h; cases h)
    refine ⟨_, _, k32 _ ?_, hrun, hended, _, _, rfl, ?_, ⟨_, rfl⟩, hW, hsame.mono (by decide) (by decide)⟩
    · exact retN X31 hx (t := .boolean) Bd.returns (by simp) (hb hby at_68) hr
    · show Q0 Z p0_0 u_EQUAL u_LESS_EQUAL u_NOT_EQUAL u_LESS u_GREATER_EQUAL u_GREATER h0 n0 _ T31.heap _
      rw [eh31]
      exact ⟨rfl, N31⟩
set_option maxRecDepth 65536 in
set_option maxHeartbeats 40000000 in
theorem comes_1 {Post : Tables → Env → Array Value → State → Outcome → State → Prop} (hpost : ∀ tb e args s v u, (limb_1_1.after args s (.returned v) u = true ∧ limb_1_2.after args s (.returned v) u = true ∧ True) → FrameEnd s (.returned v) u (Jvm.fieldLocs frame_1_writes args s ++ Jvm.arrayLocs frame_1_arrays args s ++ Jvm.staticLocs frame_1_statics s) 0 0 → Post tb e args s (.returned v) u) :
    ArmFor flags0 classFile x code maxLocals ret World_1 tables_1 room_1 Calls_1 rest_1 Pre_1 Post := by
  intro l hfl _ _ p e ha hc hk s m args below hf hA hF happ hP
  obtain ⟨hcalls, hrest, hpre⟩ := hP
  obtain ⟨-, -, -, hnamed, -, -, -, hat⟩ := (Spec.applies_iff hf).mp happ
  obtain ⟨hg, hn⟩ := and_e (Cond.before_iff.mp (show (Jvm.Cond.and given_1 narrow_1).before args s = true from hpre))
  obtain ⟨gv1, gv2⟩ := and_e hg
  obtain ⟨w0, rfl⟩ : ∃ w0 : Value, args = #[w0] := by
    have hs : args.size = 1 := by simpa [Cond.value, given_1] using gv1
    obtain ⟨L⟩ := args
    match L, hs with
    | [w0], _ => exact ⟨w0, rfl⟩
  have hw := fun d (hd : d ∈ tables_1) => atoms_spec (ws := Jvm.Cond.code x code maxLocals ret :: tables_1) hat d (List.mem_cons_of_mem _ hd)
  have hfit : Fit s := fun {y c} hc i hi => by
    obtain ⟨ha, rfl⟩ := Array.getElem?_eq_some_iff.mp hc
    have q := List.all_eq_true.mp ((Array.all_eq_true_iff_forall_mem.mp hF) _ (Array.getElem_mem ha)) i (List.mem_range.mpr hi)
    simpa [Array.getElem?_eq_getElem hi] using q
  obtain ⟨i0, ei0⟩ := is_v gv2
  obtain rfl : w0 = (.int i0) := Option.some.inj ei0
  obtain ⟨nv1, nv2⟩ := and_e hn
  obtain ⟨nv3, nv4⟩ := and_e nv2
  obtain ⟨nv5, nv6⟩ := and_e nv4
  obtain ⟨nv7, nv8⟩ := and_e nv6
  obtain ⟨nv9, nv10⟩ := and_e nv8
  obtain ⟨nv11, nv12⟩ := and_e nv10
  obtain ⟨nv13, nv14⟩ := and_e nv12
  obtain ⟨nv15, nv16⟩ := and_e nv14
  obtain ⟨nv17, nv18⟩ := and_e nv16
  obtain ⟨nv19, nv20⟩ := and_e nv18
  obtain ⟨nv21, nv22⟩ := and_e nv20
  obtain ⟨u_EQUAL, ev_u_EQUAL, E_u_EQUAL⟩ := own_ex nv1
  have S_EQUAL : Sta s s.heap "com/example/chop/chop/model/Relation" "EQUAL" "Lcom/example/chop/chop/model/Relation;" (.ref u_EQUAL) := Sta.start ev_u_EQUAL (Or.inr ⟨(hw _ (List.mem_of_getElem? (i := 6) rfl)), (hw _ (List.mem_of_getElem? (i := 7) rfl))⟩)
  have e_1 := own_evI nv3
  have F_u_EQUAL_ordinal : Fld s s.heap u_EQUAL "java/lang/Enum" "ordinal" "I" (.int (0 : Int32)) := own_fldV ev_u_EQUAL e_1
  obtain ⟨u_LESS_EQUAL, ev_u_LESS_EQUAL, E_u_LESS_EQUAL⟩ := own_ex nv5
  have S_LESS_EQUAL : Sta s s.heap "com/example/chop/chop/model/Relation" "LESS_EQUAL" "Lcom/example/chop/chop/model/Relation;" (.ref u_LESS_EQUAL) := Sta.start ev_u_LESS_EQUAL (Or.inr ⟨(hw _ (List.mem_of_getElem? (i := 6) rfl)), (hw _ (List.mem_of_getElem? (i := 29) rfl))⟩)
  have e_2 := own_evI nv7
  have F_u_LESS_EQUAL_ordinal : Fld s s.heap u_LESS_EQUAL "java/lang/Enum" "ordinal" "I" (.int (3 : Int32)) := own_fldV ev_u_LESS_EQUAL e_2
  obtain ⟨u_NOT_EQUAL, ev_u_NOT_EQUAL, E_u_NOT_EQUAL⟩ := own_ex nv9
  have S_NOT_EQUAL : Sta s s.heap "com/example/chop/chop/model/Relation" "NOT_EQUAL" "Lcom/example/chop/chop/model/Relation;" (.ref u_NOT_EQUAL) := Sta.start ev_u_NOT_EQUAL (Or.inr ⟨(hw _ (List.mem_of_getElem? (i := 6) rfl)), (hw _ (List.mem_of_getElem? (i := 31) rfl))⟩)
  have e_3 := own_evI nv11
  have F_u_NOT_EQUAL_ordinal : Fld s s.heap u_NOT_EQUAL "java/lang/Enum" "ordinal" "I" (.int (1 : Int32)) := own_fldV ev_u_NOT_EQUAL e_3
  obtain ⟨u_LESS, ev_u_LESS, E_u_LESS⟩ := own_ex nv13
  have S_LESS : Sta s s.heap "com/example/chop/chop/model/Relation" "LESS" "Lcom/example/chop/chop/model/Relation;" (.ref u_LESS) := Sta.start ev_u_LESS (Or.inr ⟨(hw _ (List.mem_of_getElem? (i := 6) rfl)), (hw _ (List.mem_of_getElem? (i := 33) rfl))⟩)
  have e_4 := own_evI nv15
  have F_u_LESS_ordinal : Fld s s.heap u_LESS "java/lang/Enum" "ordinal" "I" (.int (2 : Int32)) := own_fldV ev_u_LESS e_4
  obtain ⟨u_GREATER_EQUAL, ev_u_GREATER_EQUAL, E_u_GREATER_EQUAL⟩ := own_ex nv17
  have S_GREATER_EQUAL : Sta s s.heap "com/example/chop/chop/model/Relation" "GREATER_EQUAL" "Lcom/example/chop/chop/model/Relation;" (.ref u_GREATER_EQUAL) := Sta.start ev_u_GREATER_EQUAL (Or.inr ⟨(hw _ (List.mem_of_getElem? (i := 6) rfl)), (hw _ (List.mem_of_getElem? (i := 36) rfl))⟩)
  have e_5 := own_evI nv19
  have F_u_GREATER_EQUAL_ordinal : Fld s s.heap u_GREATER_EQUAL "java/lang/Enum" "ordinal" "I" (.int (5 : Int32)) := own_fldV ev_u_GREATER_EQUAL e_5
  obtain ⟨u_GREATER, ev_u_GREATER, E_u_GREATER⟩ := own_ex nv21
  have S_GREATER : Sta s s.heap "com/example/chop/chop/model/Relation" "GREATER" "Lcom/example/chop/chop/model/Relation;" (.ref u_GREATER) := Sta.start ev_u_GREATER (Or.inr ⟨(hw _ (List.mem_of_getElem? (i := 6) rfl)), (hw _ (List.mem_of_getElem? (i := 38) rfl))⟩)
  have e_6 := own_evI nv22
  have F_u_GREATER_ordinal : Fld s s.heap u_GREATER "java/lang/Enum" "ordinal" "I" (.int (4 : Int32)) := own_fldV ev_u_GREATER e_6
  obtain ⟨n, o, h1, h2, h3, _, L, rfl, ⟨rfl, N⟩, hq⟩ := rm0 l s _ hw tables_1 i0 u_EQUAL u_LESS_EQUAL u_NOT_EQUAL u_LESS u_GREATER_EQUAL u_GREATER s.heap s.heap.size (Nat.le_refl _) S_EQUAL E_u_EQUAL F_u_EQUAL_ordinal S_LESS_EQUAL E_u_LESS_EQUAL F_u_LESS_EQUAL_ordinal S_NOT_EQUAL E_u_NOT_EQUAL F_u_NOT_EQUAL_ordinal S_LESS E_u_LESS F_u_LESS_ordinal S_GREATER_EQUAL E_u_GREATER_EQUAL F_u_GREATER_EQUAL_ordinal S_GREATER E_u_GREATER F_u_GREATER_ordinal p e ha hc hk s m _ below hf ((Spec.applies_iff_loose hf).mp happ).1 ⟨rfl, State.Warmed39.refl s, rfl⟩ trivial
  refine ⟨n, _, h1, h2, h3, hpost _ _ _ _ _ _ ⟨Cond.after_iff.mpr rfl, Cond.after_iff.mpr (eq_i res_at (Term.int_eval (1)) rfl), trivial⟩ ⟨hq.1, hq.2.1, (hq.2.2.sift fun y hy => Or.inr (N y hy)).mono (by decide) (by decide)⟩⟩
theorem main_1_1 : Claimed_1_1 := comes_1 fun _ _ _ _ _ _ h hF => ⟨h.1, hF⟩
theorem main_1_2 : Claimed_1_2 := comes_1 fun _ _ _ _ _ _ h hF => ⟨h.2.1, hF⟩
end Jvm.Pilot.@@N@@
namespace Jvm.Pilot.@@N@@
open Jvm Jvm.ClassFile Sem Op Lib Jvm.Free Jvm.Stand Jvm.Pilot.@@N@@.Jvm.D
/-! MADE BY PROGRAM (witnessworld.py) out of the Statement's table words and the real class files: 12 classes; the members and pool entries that the words name. The judged class is class 1, her method 2. -/
namespace start1
open Jvm.ClassFile
def u (s : String) : CpInfo := .utf8 (stringToUtf16 s)
/-- a pool by its gaps: so many unusable entries, then the entry; so many at the end -/
def gap : Nat → List CpInfo → List CpInfo
  | 0, r => r
  | n + 1, r => .unusable :: gap n r
def poolList (es : List (Nat × CpInfo)) (last : Nat) : List CpInfo := es.foldr (fun e r => gap e.1 (e.2 :: r)) (gap last [])
def pool (es : List (Nat × CpInfo)) (last : Nat) : Array CpInfo := ⟨poolList es last⟩
def fileOf (pool : Array CpInfo) (this : Nat) (attrs : Array Attribute := #[]) (ms : Array MethodInfo := #[]) (fl : Nat := 33) (sup : Nat := 0) (ifs : Array Nat := #[]) (fds : Array FieldInfo := #[]) : ClassFile where
  minorVersion := 0
  majorVersion := 65
  constantPool := pool
  accessFlags := fl
  thisClass := this
  superClass := sup
  interfaces := ifs
  fields := fds
  methods := ms
  attributes := attrs
def plain (name : String) (sup : Option ClassId) : Class where
  name := name
  kind := .ordinary
  loader := none
  accessFlags := 33
  super := sup
  interfaces := #[]
  cf := none
  fields := #[]
  methods := #[]
  instanceTypes := #[]
  staticTypes := #[]
  resolved := #[]
  callSites := []
  init := .initialized
  statics := none
  mirror := none

def pool0 : Array CpInfo := pool [(5, u "<init>"), (0, u "()V"), (1, .class_ 10), (1, u "java/lang/Object")] 113

def k0m0 : Method := { name := "<init>", desc := "()V", sig := { parameters := [], returnType := none }, accessFlags := 1, code := none }
/-- java/lang/Object -/
def k0 : Class := { plain "java/lang/Object" none with
  accessFlags := 33
  interfaces := #[]
  cf := some (fileOf pool0 8 #[] #[{ accessFlags := 1, nameIndex := 5, descriptorIndex := 6, attributes := #[] }] 33 0 #[] #[])
  fields := #[]
  methods := #[k0m0]
  instanceTypes := #[]
  staticTypes := #[]
  resolved := Array.replicate 124 none
  statics := none }

def pool1 : Array CpInfo := pool [(2, .class_ 4), (1, u "java/lang/Object"), (0, u "<init>"), (0, u "()V"), (0, .fieldref 8 9), (0, .class_ 10), (0, .nameAndType 11 12), (0, u "com/example/chop/chop/model/Relation"), (0, u "EQUAL"), (0, u "Lcom/example/chop/chop/model/Relation;"), (0, .fieldref 8 14), (0, .nameAndType 15 12), (0, u "NOT_EQUAL"), (0, .fieldref 8 17), (0, .nameAndType 18 12), (0, u "LESS"), (0, .fieldref 8 20), (0, .nameAndType 21 12), (0, u "LESS_EQUAL"), (0, .fieldref 8 23), (0, .nameAndType 24 12), (0, u "GREATER"), (0, .fieldref 8 26), (0, .nameAndType 27 12), (0, u "GREATER_EQUAL"), (0, .integer 2147483647), (0, .methodref 30 31), (0, .class_ 32), (0, .nameAndType 33 34), (0, u "com/example/chop/chop/model/RelationIsBoundPinLaw"), (0, u "pick"), (0, u "(I)Lcom/example/chop/chop/model/Relation;"), (0, .methodref 8 36), (0, .nameAndType 37 38), (0, u "isBound"), (0, u "()Z"), (0, .methodref 8 40), (0, .nameAndType 41 42), (0, u "holds"), (0, u "(I)Z"), (3, u "law")] 2

def k1m0 : Method := { name := "<init>", desc := "()V", sig := { parameters := [], returnType := none }, accessFlags := 1, code := none }
def k1c1 : Code := { maxStack := 2, maxLocals := 1, code := method_2_code, exceptionTable := #[], attributes := #[] }
def k1m1 : Method := { name := "pick", desc := "(I)Lcom/example/chop/chop/model/Relation;", sig := { parameters := [.int], returnType := some (.object "com/example/chop/chop/model/Relation") }, accessFlags := 10, code := some k1c1 }
def k1c2 : Code := { maxStack := 3, maxLocals := 6, code := code, exceptionTable := #[], attributes := #[] }
def k1m2 : Method := { name := "law", desc := "(I)Z", sig := { parameters := [.int], returnType := some .boolean }, accessFlags := 9, code := some k1c2 }
/-- com/example/chop/chop/model/RelationIsBoundPinLaw -/
def k1 : Class := { plain "com/example/chop/chop/model/RelationIsBoundPinLaw" (some 0) with
  accessFlags := 49
  interfaces := #[]
  cf := some (fileOf pool1 30 #[] #[{ accessFlags := 1, nameIndex := 5, descriptorIndex := 6, attributes := #[] }, { accessFlags := 10, nameIndex := 33, descriptorIndex := 34, attributes := #[] }, { accessFlags := 9, nameIndex := 46, descriptorIndex := 42, attributes := #[] }] 49 2 #[] #[])
  fields := #[]
  methods := #[k1m0, k1m1, k1m2]
  instanceTypes := #[]
  staticTypes := #[]
  resolved := Array.replicate 49 none
  statics := none }

def pool2 : Array CpInfo := pool [(1, .class_ 2), (0, u "java/lang/constant/Constable"), (0, .class_ 4), (0, u "java/lang/Object")] 6

/-- java/lang/constant/Constable -/
def k2 : Class := { plain "java/lang/constant/Constable" (some 0) with
  accessFlags := 1537
  interfaces := #[]
  cf := some (fileOf pool2 1 #[] #[] 1537 3 #[] #[])
  fields := #[]
  methods := #[]
  instanceTypes := #[]
  staticTypes := #[]
  resolved := Array.replicate 11 none
  statics := none }

def pool3 : Array CpInfo := pool [(1, .class_ 2), (0, u "java/lang/Comparable"), (0, .class_ 4), (0, u "java/lang/Object")] 7

/-- java/lang/Comparable -/
def k3 : Class := { plain "java/lang/Comparable" (some 0) with
  accessFlags := 1537
  interfaces := #[]
  cf := some (fileOf pool3 1 #[] #[] 1537 3 #[] #[])
  fields := #[]
  methods := #[]
  instanceTypes := #[]
  staticTypes := #[]
  resolved := Array.replicate 12 none
  statics := none }

def pool4 : Array CpInfo := pool [(1, .class_ 2), (0, u "java/io/Serializable"), (0, .class_ 4), (0, u "java/lang/Object")] 2

/-- java/io/Serializable -/
def k4 : Class := { plain "java/io/Serializable" (some 0) with
  accessFlags := 1537
  interfaces := #[]
  cf := some (fileOf pool4 1 #[] #[] 1537 3 #[] #[])
  fields := #[]
  methods := #[]
  instanceTypes := #[]
  staticTypes := #[]
  resolved := Array.replicate 7 none
  statics := none }

def pool5 : Array CpInfo := pool [(2, .class_ 4), (1, u "java/lang/Enum"), (0, u "name"), (0, u "Ljava/lang/String;"), (0, .fieldref 2 8), (0, .nameAndType 9 10), (0, u "ordinal"), (0, u "I"), (1, .class_ 14), (1, u "java/lang/Object"), (4, u "hash"), (86, .class_ 108), (1, u "java/lang/Enum$EnumDesc"), (2, .class_ 112), (0, u "java/lang/constant/Constable"), (0, .class_ 114), (0, u "java/lang/Comparable"), (0, .class_ 116), (0, u "java/io/Serializable"), (9, u "()I")] 77

def k5c0 : Code := { maxStack := 1, maxLocals := 1, code := jdk_37_method_2_code, exceptionTable := #[], attributes := #[] }
def k5m0 : Method := { name := "ordinal", desc := "()I", sig := { parameters := [], returnType := some .int }, accessFlags := 17, code := some k5c0 }
/-- java/lang/Enum -/
def k5 : Class := { plain "java/lang/Enum" (some 0) with
  accessFlags := 1057
  interfaces := #[2, 3, 4]
  cf := some (fileOf pool5 2 #[.nestMembers #[106]] #[{ accessFlags := 17, nameIndex := 9, descriptorIndex := 126, attributes := #[] }] 1057 12 #[111, 113, 115] #[{ accessFlags := 18, nameIndex := 5, descriptorIndex := 6, attributes := #[] }, { accessFlags := 18, nameIndex := 9, descriptorIndex := 10, attributes := #[] }, { accessFlags := 2, nameIndex := 19, descriptorIndex := 10, attributes := #[] }])
  fields := #[{ name := "name", type := (.object "java/lang/String"), accessFlags := 18, slot := 0, constantValue := 0 }, { name := "ordinal", type := .int, accessFlags := 18, slot := 1, constantValue := 0 }, { name := "hash", type := .int, accessFlags := 2, slot := 2, constantValue := 0 }]
  methods := #[k5m0]
  instanceTypes := #[(.object "java/lang/String"), .int, .int]
  staticTypes := #[]
  resolved := Array.replicate 204 none
  statics := none }

def pool6 : Array CpInfo := pool [(1, .class_ 2), (0, u "com/example/chop/chop/model/Relation"), (0, .fieldref 1 4), (0, .nameAndType 5 6), (0, u "EQUAL"), (0, u "Lcom/example/chop/chop/model/Relation;"), (0, .fieldref 1 8), (0, .nameAndType 9 6), (0, u "NOT_EQUAL"), (2, u "LESS"), (2, u "LESS_EQUAL"), (2, u "GREATER"), (2, u "GREATER_EQUAL"), (2, u "$VALUES"), (0, u "[Lcom/example/chop/chop/model/Relation;"), (6, .class_ 34), (1, u "java/lang/Enum"), (8, u "symbol"), (0, u "Ljava/lang/String;"), (2, u "smtLib"), (0, .methodref 1 49), (0, .nameAndType 50 51), (0, u "ordinal"), (0, u "()I"), (40, u "isBound"), (0, u "()Z"), (5, u "holds"), (0, u "(I)Z")] 5

def k6c0 : Code := { maxStack := 2, maxLocals := 1, code := prog_4_method_6_code, exceptionTable := #[], attributes := #[] }
def k6m0 : Method := { name := "isBound", desc := "()Z", sig := { parameters := [], returnType := some .boolean }, accessFlags := 1, code := some k6c0 }
def k6c1 : Code := { maxStack := 4, maxLocals := 2, code := prog_4_method_10_code, exceptionTable := #[], attributes := #[] }
def k6m1 : Method := { name := "holds", desc := "(I)Z", sig := { parameters := [.int], returnType := some .boolean }, accessFlags := 1, code := some k6c1 }
/-- com/example/chop/chop/model/Relation -/
def k6 : Class := { plain "com/example/chop/chop/model/Relation" (some 5) with
  accessFlags := 16433
  interfaces := #[]
  cf := some (fileOf pool6 1 #[] #[{ accessFlags := 1, nameIndex := 92, descriptorIndex := 93, attributes := #[] }, { accessFlags := 1, nameIndex := 99, descriptorIndex := 100, attributes := #[] }] 16433 32 #[] #[{ accessFlags := 16409, nameIndex := 5, descriptorIndex := 6, attributes := #[] }, { accessFlags := 16409, nameIndex := 9, descriptorIndex := 6, attributes := #[] }, { accessFlags := 16409, nameIndex := 12, descriptorIndex := 6, attributes := #[] }, { accessFlags := 16409, nameIndex := 15, descriptorIndex := 6, attributes := #[] }, { accessFlags := 16409, nameIndex := 18, descriptorIndex := 6, attributes := #[] }, { accessFlags := 16409, nameIndex := 21, descriptorIndex := 6, attributes := #[] }, { accessFlags := 18, nameIndex := 43, descriptorIndex := 44, attributes := #[] }, { accessFlags := 18, nameIndex := 47, descriptorIndex := 44, attributes := #[] }, { accessFlags := 4122, nameIndex := 24, descriptorIndex := 25, attributes := #[] }])
  fields := #[{ name := "EQUAL", type := (.object "com/example/chop/chop/model/Relation"), accessFlags := 16409, slot := 0, constantValue := 0 }, { name := "NOT_EQUAL", type := (.object "com/example/chop/chop/model/Relation"), accessFlags := 16409, slot := 1, constantValue := 0 }, { name := "LESS", type := (.object "com/example/chop/chop/model/Relation"), accessFlags := 16409, slot := 2, constantValue := 0 }, { name := "LESS_EQUAL", type := (.object "com/example/chop/chop/model/Relation"), accessFlags := 16409, slot := 3, constantValue := 0 }, { name := "GREATER", type := (.object "com/example/chop/chop/model/Relation"), accessFlags := 16409, slot := 4, constantValue := 0 }, { name := "GREATER_EQUAL", type := (.object "com/example/chop/chop/model/Relation"), accessFlags := 16409, slot := 5, constantValue := 0 }, { name := "symbol", type := (.object "java/lang/String"), accessFlags := 18, slot := 3, constantValue := 0 }, { name := "smtLib", type := (.object "java/lang/String"), accessFlags := 18, slot := 4, constantValue := 0 }, { name := "$VALUES", type := (.array (.object "com/example/chop/chop/model/Relation")), accessFlags := 4122, slot := 6, constantValue := 0 }]
  methods := #[k6m0, k6m1]
  instanceTypes := #[(.object "java/lang/String"), .int, .int, (.object "java/lang/String"), (.object "java/lang/String")]
  staticTypes := #[(.object "com/example/chop/chop/model/Relation"), (.object "com/example/chop/chop/model/Relation"), (.object "com/example/chop/chop/model/Relation"), (.object "com/example/chop/chop/model/Relation"), (.object "com/example/chop/chop/model/Relation"), (.object "com/example/chop/chop/model/Relation"), (.array (.object "com/example/chop/chop/model/Relation"))]
  resolved := Array.replicate 106 none
  statics := some 0 }

def pool7 : Array CpInfo := pool [(1, u "java/lang/Cloneable"), (0, .class_ 1), (0, u "java/lang/Object"), (0, .class_ 3)] 3

/-- java/lang/Cloneable -/
def k7 : Class := { plain "java/lang/Cloneable" (some 0) with
  accessFlags := 1537
  interfaces := #[]
  cf := some (fileOf pool7 2 #[] #[] 1537 4 #[] #[])
  fields := #[]
  methods := #[]
  instanceTypes := #[]
  staticTypes := #[]
  resolved := Array.replicate 8 none
  statics := none }

/-- the primitive byte -/
def k8 : Class := { plain "byte" none with kind := .primitive 'B', accessFlags := 0x411 }
/-- [B -/
def k9 : Class := { plain "[B" (some 0) with kind := .array 8 .byte, interfaces := #[7, 4], accessFlags := 1041 }

/-- the primitive int -/
def k10 : Class := { plain "int" none with kind := .primitive 'I', accessFlags := 0x411 }
/-- [I -/
def k11 : Class := { plain "[I" (some 0) with kind := .array 10 .int, interfaces := #[7, 4], accessFlags := 1041 }

def heap : Heap := #[{ cls := 6, slots := #[.ref 1, .ref 2, .ref 3, .ref 4, .ref 5, .ref 6, .null], vm := .statics 6 },
  { cls := 6, slots := #[.null, .int 0, .int 0, .null, .null], vm := .none },
  { cls := 6, slots := #[.null, .int 1, .int 0, .null, .null], vm := .none },
  { cls := 6, slots := #[.null, .int 2, .int 0, .null, .null], vm := .none },
  { cls := 6, slots := #[.null, .int 3, .int 0, .null, .null], vm := .none },
  { cls := 6, slots := #[.null, .int 4, .int 0, .null, .null], vm := .none },
  { cls := 6, slots := #[.null, .int 5, .int 0, .null, .null], vm := .none }]
def classes : Array Class := #[k0, k1, k2, k3, k4, k5, k6, k7, k8, k9, k10, k11]
def interned : List (Array UInt16 × Addr) := []
def slotsUsed : Nat := 37
def theMethod : MethodId := ⟨1, 2⟩
def args0 : Array Value := #[.int 5]
def aboutOver (below : List Frame) : State where
  vm := { classes := classes, interned := interned.toArray }
  heap := heap
  slotsUsed := slotsUsed
  threads := #[{ frames := .invoking theMethod args0 :: below }]
def below0 : List Frame := [.native { method := ⟨0, 0⟩, args := #[] }]
def about1 : State := aboutOver below0
def p0 : Program := .bare "" "" ""
def e0 : Env := launch0.env 0 0 0
theorem w_frames : about1.frames = Frame.invoking theMethod args0 :: below0 := rfl
set_option maxRecDepth 65536 in
theorem w_args : argsFit about1.vm theMethod args0 = true := by decide +kernel
set_option maxRecDepth 65536 in
theorem w_heap : heapFits about1 = true := by decide +kernel
set_option maxRecDepth 65536 in
theorem w_runnable : about1.curStatus? = some .runnable := by decide +kernel
set_option maxRecDepth 65536 in
theorem w_alone : about1.alone = true := by decide +kernel
set_option maxRecDepth 65536 in
theorem w_named : about1.methodNamed? x = some theMethod := by decide +kernel
set_option maxRecDepth 65536 in
theorem w_hears : about1.hears theMethod below0 = true := by decide +kernel
set_option maxRecDepth 65536 in
theorem w_ripe : about1.ripe theMethod args0 below0 = true := by decide +kernel
theorem w_running : about1.status = .running := rfl
set_option maxRecDepth 65536 in
theorem w_room : about1.hasRoom e0.platform room_1 = true :=
  launch0.hasRoom_least _ room_1 (by decide +kernel) (by decide +kernel) (by decide +kernel) (by decide +kernel) (by decide +kernel) (by decide +kernel)
theorem allAtoms_all (ts : List Jvm.Cond) (a : Array Jvm.Value) (st : Jvm.State) : (allAtoms ts).before a st = ts.all (fun c => c.before a st) := by
  induction ts with
  | nil => rfl
  | cons c t ih =>
    show (Jvm.Cond.and c (allAtoms t)).before a st = _
    rw [Jvm.Cond.before_and, ih, List.all_cons]
def words1 : List Jvm.Cond := Jvm.Cond.code x code maxLocals ret :: tables_1
/-- a 'code' word, met by the world's own term for the bytes: nothing is compared byte by byte -/
theorem code_word {y : MethodName} {bytes : ByteArray} {mx : Nat} {rt : Option FieldType} {a : Array Value} {s : State} {m : MethodId} {meth : Method} {c : Code} (h1 : s.methodNamed? y = some m) (h2 : s.vm.method? m = some meth) (h3 : meth.code = some c) (h4 : c.code = bytes)
    (h5 : (c.maxLocals == mx && c.exceptionTable.isEmpty && decide (c.maxStack ≤ mostOperands) && decide (meth.sig.returnType = rt) && !meth.locks && decide (parseMethodDescriptor y.desc = some meth.sig)) = true) : (Jvm.Cond.code y bytes mx rt).before a s = true := by
  simp only [Bool.and_eq_true, beq_iff_eq, Bool.not_eq_true', decide_eq_true_eq] at h5
  obtain ⟨⟨⟨⟨⟨g1, g2⟩, g3⟩, g4⟩, g5⟩, g6⟩ := h5
  simp [Cond.before, Cond.holds, Cond.value, h1, h2, h3, h4, g1, g2, g3, g4, g5, g6]
def isCode : Jvm.Cond → Bool
  | .code _ _ _ _ => true
  | _ => false
theorem all_split {L : List Jvm.Cond} {P : Jvm.Cond → Bool} (h1 : L.all (fun c => isCode c || P c) = true) (h2 : ∀ c ∈ L.filter isCode, P c = true) : L.all P = true := by
  refine List.all_eq_true.mpr fun c hc => ?_
  have h := List.all_eq_true.mp h1 c hc
  rcases Bool.eq_false_or_eq_true (isCode c) with hi | hi
  · exact h2 c (List.mem_filter.mpr ⟨hc, hi⟩)
  · simpa [hi] using h
set_option maxRecDepth 65536 in
theorem w_c0 : (Jvm.Cond.code x code maxLocals ret).before args0 about1 = true := code_word (m := ⟨1, 2⟩) (meth := k1m2) (c := k1c2) (by decide +kernel) rfl rfl rfl (by decide +kernel)
set_option maxRecDepth 65536 in
theorem w_c1 : (Jvm.Cond.code ({ cls := "com/example/chop/chop/model/RelationIsBoundPinLaw", name := "pick", desc := "(I)Lcom/example/chop/chop/model/Relation;" } : Jvm.MethodName) method_2_code (1 : Nat) (Option.some (Jvm.ClassFile.FieldType.object "com/example/chop/chop/model/Relation"))).before args0 about1 = true := code_word (m := ⟨1, 1⟩) (meth := k1m1) (c := k1c1) (by decide +kernel) rfl rfl rfl (by decide +kernel)
set_option maxRecDepth 65536 in
theorem w_c2 : (Jvm.Cond.code ({ cls := "com/example/chop/chop/model/Relation", name := "isBound", desc := "()Z" } : Jvm.MethodName) prog_4_method_6_code (1 : Nat) (Option.some Jvm.ClassFile.FieldType.boolean)).before args0 about1 = true := code_word (m := ⟨6, 0⟩) (meth := k6m0) (c := k6c0) (by decide +kernel) rfl rfl rfl (by decide +kernel)
set_option maxRecDepth 65536 in
theorem w_c3 : (Jvm.Cond.code ({ cls := "com/example/chop/chop/model/Relation", name := "holds", desc := "(I)Z" } : Jvm.MethodName) prog_4_method_10_code (2 : Nat) (Option.some Jvm.ClassFile.FieldType.boolean)).before args0 about1 = true := code_word (m := ⟨6, 1⟩) (meth := k6m1) (c := k6c1) (by decide +kernel) rfl rfl rfl (by decide +kernel)
set_option maxRecDepth 65536 in
theorem w_c4 : (Jvm.Cond.code ({ cls := "java/lang/Enum", name := "ordinal", desc := "()I" } : Jvm.MethodName) jdk_37_method_2_code (1 : Nat) (Option.some Jvm.ClassFile.FieldType.int)).before args0 about1 = true := code_word (m := ⟨5, 0⟩) (meth := k5m0) (c := k5c0) (by decide +kernel) rfl rfl rfl (by decide +kernel)
def codes1 : List Jvm.Cond := [Jvm.Cond.code x code maxLocals ret, Jvm.Cond.code ({ cls := "com/example/chop/chop/model/RelationIsBoundPinLaw", name := "pick", desc := "(I)Lcom/example/chop/chop/model/Relation;" } : Jvm.MethodName) method_2_code (1 : Nat) (Option.some (Jvm.ClassFile.FieldType.object "com/example/chop/chop/model/Relation")), Jvm.Cond.code ({ cls := "com/example/chop/chop/model/Relation", name := "isBound", desc := "()Z" } : Jvm.MethodName) prog_4_method_6_code (1 : Nat) (Option.some Jvm.ClassFile.FieldType.boolean), Jvm.Cond.code ({ cls := "com/example/chop/chop/model/Relation", name := "holds", desc := "(I)Z" } : Jvm.MethodName) prog_4_method_10_code (2 : Nat) (Option.some Jvm.ClassFile.FieldType.boolean), Jvm.Cond.code ({ cls := "java/lang/Enum", name := "ordinal", desc := "()I" } : Jvm.MethodName) jdk_37_method_2_code (1 : Nat) (Option.some Jvm.ClassFile.FieldType.int)]
set_option maxRecDepth 65536 in
theorem codes_eq : words1.filter isCode = codes1 := rfl
theorem w_codes : ∀ c ∈ words1.filter isCode, c.before args0 about1 = true := by
  rw [codes_eq]
  intro c hc
  simp only [codes1, List.mem_cons, List.not_mem_nil, or_false] at hc
  rcases hc with rfl | rfl | rfl | rfl | rfl
  · exact w_c0
  · exact w_c1
  · exact w_c2
  · exact w_c3
  · exact w_c4
set_option maxRecDepth 65536 in
theorem w_t1 : (words1.take 24).all (fun c => isCode c || c.before args0 about1) = true := by decide +kernel
set_option maxRecDepth 65536 in
theorem w_t2 : (words1.drop 24).all (fun c => isCode c || c.before args0 about1) = true := by decide +kernel
theorem w_tables : (allAtoms (Jvm.Cond.code x code maxLocals ret :: tables_1)).before args0 about1 = true := by
  rw [allAtoms_all]
  show words1.all (fun c => c.before args0 about1) = true
  refine all_split ?_ w_codes
  rw [← List.take_append_drop 24 words1, List.all_append, w_t1, w_t2]
  rfl
set_option maxRecDepth 65536 in
theorem w_case : (Jvm.Cond.and given_1 narrow_1).before args0 about1 = true := by decide +kernel
theorem w_applies : (headSpec (Jvm.Cond.code x code maxLocals ret :: tables_1) room_1).applies x e0.platform about1 = true :=
  (Spec.applies_iff w_frames).mpr ⟨w_running, w_runnable, w_alone, w_named, w_hears, w_ripe, w_room, w_tables⟩
theorem atStart : AtStart classFile x code maxLocals ret World_1 tables_1 room_1 Calls_1 rest_1 Pre_1 launch0 p0 e0 about1 theMethod args0 below0 :=
  ⟨lists_1, trivial, launch0.admits_env _ _ _, launch0.least_env, fairChoices_fair.cas, fairChoices_fair.clock, w_frames, w_args, w_heap, w_applies, trivial, trivial, w_case⟩
end start1
theorem witness_1 : WitnessClaimed_1 := ⟨start1.p0, start1.e0, start1.about1, start1.theMethod, start1.args0, start1.below0, start1.atStart⟩
end Jvm.Pilot.@@N@@
