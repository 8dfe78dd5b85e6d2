import JvmDerived
import JvmDerived.Pilot.@@N@@Statement
import JvmDerived.Pilot.@@N@@Code
set_option linter.unusedVariables false
set_option linter.unusedSimpArgs false
namespace Jvm.RoadKit
open Sem ClassFile Op Lib Jvm.Stand Jvm.Free Jvm.LawKit
section New
variable {p : Program} {l : Launch} {e : Env} {R : Room} {s : State} {m : MethodId} {args : Array Value} {below : List Frame} {meth : Method} {c : Code} {T : State} {locs : List Loc} {cells slots : Nat}
theorem retI (X : Stand p l e R s m args below meth c T locs cells slots) (hx : p.tables.exec = Jvm.exec) {pc : Nat} {Ls : Array Slot} {z : Int32} {rest : List Value} (hret : meth.sig.returnType = some .int) (hd : decode c.code pc = .ok (.ireturn, 1)) {fs : List Frame}
    (hl : ∀ (f : JFrame) (acts : List Action), f.method = m → f.locked = none → f.entered = [] → (doReturn e (T.setTop f) acts (some (.int z))).1 = T.setFrames fs) : Steps p.tables e below (T.setTop (mkF m pc Ls (.int z :: rest))) (T.setFrames fs) :=
  retOut X hx hret rfl (Or.inl ⟨rfl, Or.inl rfl, z, rfl⟩) hd hl
end New
end Jvm.RoadKit
namespace Jvm.Pilot.@@N@@
open Jvm Jvm.ClassFile Sem Op Lib Jvm.Free Jvm.Stand Jvm.LawKit Jvm.RoadKit Bundle Jvm.Pilot.@@N@@.Jvm.D
theorem own_selpriv {s : State} {args : Array Value} {y : MethodName} {n : Nat} (hins : (Jvm.Cond.instantiable y.cls n).before args s = true) (hpriv : (Jvm.Cond.privateMethod y).before args s = true) (hinst : (Jvm.Cond.instanceMethod y).before args s = true) (hy : y.cls ≠ "java/lang/invoke/MethodHandle" ∧ y.cls ≠ "java/lang/invoke/VarHandle") :
    (Jvm.Cond.selects y.cls y y).before args s = true := by
  obtain ⟨c, k, hc, hk, -, hniab, -, -⟩ := Cond.instantiable_spec hins
  have hni : k.isInterface = false := (Bool.or_eq_false_iff.mp hniab).1
  obtain ⟨mk, methM, hnamed, hmethM, -, -⟩ := Cond.instanceMethod_spec hinst
  have hfound : s.methodFound? y.cls y.name y.desc = some mk := State.methodFound?_of_named hnamed hy
  have hcls : mk.cls = c := Option.some.inj ((findClass_of_methodNamed hnamed).symm.trans hc)
  have hsel : selectMethod {} s.vm c mk = .method mk := selectMethod_private hmethM (Cond.privateMethod_at hpriv mk methM hnamed hmethM)
  simp only [Cond.before, Cond.holds, Cond.value, hc, hfound, hnamed, hsel, hcls, hk]
  simp; exact hni
theorem own_nsE {Z : State} {h : Heap} {a : Addr} {C : String} (F : Exa Z h a C) : ∀ c : Cell, h[a]? = some c → c.vm.isStatics = false := by
  obtain ⟨c, k, h1, -, -, h4, -⟩ := F
  intro c' hc; cases h1.symm.trans hc; exact h4
theorem own_nsV {Z : State} {h : Heap} {a : Addr} {k : ClassId} {ty : FieldType} {z : Int32} {vs : List Value} {dv : Value} (F : Arv Z h a k ty z vs dv) : ∀ c : Cell, h[a]? = some c → c.vm.isStatics = false := by
  obtain ⟨c, A, -⟩ := F
  intro c' hc; cases A.1.symm.trans hc; exact A.plain
theorem own_stakeep {Z : State} {h h' : Heap} {C n d : String} {v : Value} {ws : List Addr} (F : Sta Z h C n d v) (K : Keep h h' ws) (q : ∀ x ∈ ws, ∀ c : Cell, h[x]? = some c → c.vm.isStatics = false) : Sta Z h' C n d v := by
  obtain ⟨cf, i, k, f, st, cell, h1, h2, h3, h4, h5, h6, h7⟩ := F
  refine ⟨cf, i, k, f, st, cell, h1, h2, h3, h4, K.2.1 _ _ h5 (fun hm => ?_), h6, h7⟩
  rw [q st hm cell h5] at h6; cases h6
theorem own_ex {args : Array Value} {s : State} {t : Term} {C : String} (h : (Jvm.Cond.exactly t C).value args s none s [] = some true) : ∃ a, t.eval args s none [] s = some (.ref a) ∧ Exa s s.heap a C := by
  obtain ⟨a, e1⟩ := exa_v h; exact ⟨a, e1, Exa.start e1 h⟩
theorem own_evI {args : Array Value} {s : State} {t : Term} {z : Int32} (h : (Jvm.Cond.eq t (.int z)).value args s none s [] = some true) : t.eval args s none [] s = some (.int z) := by
  cases hv : t.eval args s none [] s with
  | none => simp [Cond.value, hv] at h
  | some x => cases x <;> simp [Cond.value, Term.eval, hv] at h ⊢; exact h
theorem own_evJ {args : Array Value} {s : State} {t : Term} {z : Int64} (h : (Jvm.Cond.eq t (.long z)).value args s none s [] = some true) : t.eval args s none [] s = some (.long z) := by
  cases hv : t.eval args s none [] s with
  | none => simp [Cond.value, hv] at h
  | some x => cases x <;> simp [Cond.value, Term.eval, hv] at h ⊢; exact h
theorem own_fldV {args : Array Value} {s : State} {t : Term} {a : Addr} {C n d : String} {v : Value} (ev : t.eval args s none [] s = some (.ref a)) (h : (Term.field t C n d).eval args s none [] s = some v) : Fld s s.heap a C n d v := by
  refine Fld.start ?_
  rw [← fld_at (args := args) (first := s) (o := none) (idx := []) ev]; exact h
theorem own_lt (a b : Int32) : a < b ↔ a.toInt < b.toInt := Int32.lt_iff_toInt_lt
theorem own_le (a b : Int32) : a ≤ b ↔ a.toInt ≤ b.toInt := Int32.le_iff_toInt_le
theorem own_eqi (a b : Int32) : a = b ↔ a.toInt = b.toInt := Int32.toInt_inj.symm
theorem own_ltL (a b : Int64) : a < b ↔ a.toInt < b.toInt := Int64.lt_iff_toInt_lt
theorem own_eqL (a b : Int64) : a = b ↔ a.toInt = b.toInt := Int64.toInt_inj.symm
theorem own_evR {args : Array Value} {s : State} {t u : Term} {a : Addr} (h : (Jvm.Cond.eq t u).value args s none s [] = some true) (hu : u.eval args s none [] s = some (.ref a)) : t.eval args s none [] s = some (.ref a) := by
  cases hv : t.eval args s none [] s with
  | none => simp [Cond.value, hv] at h
  | some x => cases x <;> simp [Cond.value, hu, hv] at h ⊢; exact h
theorem own_len {args : Array Value} {s : State} {t : Term} {a : Addr} {cl : Cell} {z : Int32} (ev : t.eval args s none [] s = some (.ref a)) (hc : s.arrayAt? a = some cl) (h : (Term.length t).eval args s none [] s = some (.int z)) : cl.slots.size < 2 ^ 31 ∧ cl.slots.size.toInt32 = z := by
  by_cases q : cl.slots.size < 2147483648
  · simp [Term.eval, ev, hc, q] at h; exact ⟨q, h⟩
  · simp [Term.eval, ev, hc, q] at h
theorem own_pos (x : Int32) : 0 ≤ (x &&& (2147483647 : Int32)).toInt ∧ (x &&& (2147483647 : Int32)).toInt < 2147483648 := by
  have h := c_mask x 2147483647 31 (by decide) (by decide)
  rw [h]; omega
theorem own_mod6 (x : Int32) : (x &&& (2147483647 : Int32)) % (6 : Int32) = (0 : Int32) ∨ (x &&& (2147483647 : Int32)) % (6 : Int32) = (1 : Int32) ∨ (x &&& (2147483647 : Int32)) % (6 : Int32) = (2 : Int32) ∨ (x &&& (2147483647 : Int32)) % (6 : Int32) = (3 : Int32) ∨ (x &&& (2147483647 : Int32)) % (6 : Int32) = (4 : Int32) ∨ (x &&& (2147483647 : Int32)) % (6 : Int32) = (5 : Int32) := by
  have h := own_pos x
  have q := (c_irem (x &&& (2147483647 : Int32)) (6 : Int32) 6 rfl).1 h.1
  simp only [own_eqi]
  rw [q]
  rw [show (0 : Int32).toInt = 0 from rfl, show (1 : Int32).toInt = 1 from rfl, show (2 : Int32).toInt = 2 from rfl, show (3 : Int32).toInt = 3 from rfl, show (4 : Int32).toInt = 4 from rfl, show (5 : Int32).toInt = 5 from rfl]
  omega

theorem pn_0 : plainName "java/lang/Enum" = true := by first | (simp [plainName, overriddenIn]; done) | decide +kernel
theorem d1_0 : decode jdk_37_method_2_code 0 = .ok (.aload_n 0, 1) := by decide +kernel
theorem d1_1 : decode jdk_37_method_2_code 1 = .ok (.getfield 7, 3) := by decide +kernel
theorem d1_4 : decode jdk_37_method_2_code 4 = .ok (.ireturn, 1) := by decide +kernel
theorem ef_1 (m : MethodId) (a1_0 : Addr) : entryFrame m #[(.ref a1_0)] 1 = mkF m 0 #[.val (.ref a1_0)] [] := by first | (simp [entryFrame, mkF, argsToLocals, Value.category]; done) | rfl
def Q1 (Z : State) (a1_0 : Addr) (h0 : Heap) (n0 : Nat) (v : Option Value) (h : Heap) (L : List Loc) : Prop := v = some (.int (0 : Int32)) ∧ Fr n0 L ∧ h = h0
set_option maxRecDepth 65536 in
set_option maxHeartbeats 40000000 in
theorem rm1 (l : Launch) (Z : State) (a0 : Array Value) (hw : ∀ d ∈ tables_1, d.before a0 Z = true) (ws : List Jvm.Cond) (a1_0 : Addr) (h0 : Heap) (n0 : Nat) (Z0 : n0 ≤ h0.size) (Fo : Fld Z h0 a1_0 "java/lang/Enum" "ordinal" "I" (.int (0 : Int32))) :
    MetFree l (⟨"java/lang/Enum", "ordinal", "()I"⟩ : MethodName) (head1 (Jvm.Cond.code (⟨"java/lang/Enum", "ordinal", "()I"⟩ : MethodName) jdk_37_method_2_code 1 (some .int) :: ws) ({ frames := 0, cells := 0, slots := 0, locals := 0 } : Room)) (fun a U => a = #[(.ref a1_0)] ∧ Z.Warmed39 U.vm ∧ U.heap = h0) (fun _ _ _ _ _ => True) (fun _ U o U' => ∃ v L, o = .returned v ∧ Q1 Z a1_0 h0 n0 v U'.heap L ∧ FrameEnd U o U' L ({ frames := 0, cells := 0, slots := 0, locals := 0 } : Room).cells ({ frames := 0, cells := 0, slots := 0, locals := 0 } : Room).slots) := by
  refine MetFree.of_bodySF (plainFor_of_name pn_0) hisR ?_
  intro p e s m args below meth c s₁ Bd hml0 hP hK
  obtain ⟨rfl, hZ, hh⟩ := hP
  have hx := Bd.exec
  have hby := Bd.bytes
  have hml : c.maxLocals = 1 := hml0
  have hown : s.vm.findClass "java/lang/Enum" = some m.cls := findClass_of_methodNamed Bd.named
  have hnm := (name_of_methodNamed Bd.named Bd.method).1
  have X0 : Stand p l e ({ frames := 0, cells := 0, slots := 0, locals := 0 } : Room) s m #[(.ref a1_0)] below meth c s₁ [] 0 0 := Stand.of_body Bd
  have e0 : s₁.heap = h0 := by rw [← hh, Bd.state]; rfl
  have N0 := Fr.nil n0
  have pre0 : ∀ t, Steps p.tables e below (s₁.setTop (mkF m 0 #[.val (.ref a1_0)] [])) t → Steps p.tables e below (s₁.setTop (entryFrame m #[(.ref a1_0)] 1)) t := fun t k => castTop (ef_1 m a1_0) k
  obtain ⟨T1, X1, e1, st1⟩ := getF X0 hx hZ hown (host := "") (Or.inl (hw _ (List.mem_of_getElem? (i := 43) rfl))) Via.refl e0 Fo (g := (mkF m 1 #[.val (.ref a1_0)] [(.ref a1_0)])) rfl rfl (hb hby d1_1)
  have k2 : ∀ t, Steps p.tables e below (T1.setTop (mkF m 4 #[.val (.ref a1_0)] [(.int (0 : Int32))])) t → Steps p.tables e below (s₁.setTop (entryFrame m #[(.ref a1_0)] 1)) t := by
    intro t k
    refine pre0 t ?_
    show Steps p.tables e below (s₁.setTop (mkF m 0 #[.val (.ref a1_0)] [])) _
    refine XS.aloadN X0.here hx rfl (hb hby d1_0) rfl rfl ?_
    show Steps p.tables e below (s₁.setTop (mkF m 1 #[.val (.ref a1_0)] [(.ref a1_0)])) _
    refine st1 _ ?_
    exact k
  obtain ⟨fs, hr, hrun, hended, hW, hsame⟩ := X1.leave (v := some (.int (0 : Int32))) (fun h => by rw [Bd.returns] at h; cases h)
  refine ⟨_, _, k2 _ ?_, hrun, hended, _, _, rfl, ?_, ⟨_, rfl⟩, hW, hsame.mono (by decide) (by decide)⟩
  · exact retI X1 hx Bd.returns (hb hby d1_4) hr
  · show Q1 Z a1_0 h0 n0 _ T1.heap _
    rw [e1]
    exact ⟨rfl, N0, rfl⟩
theorem pn_1 : plainName "com/example/chop/chop/model/Relation" = true := by first | (simp [plainName, overriddenIn]; done) | decide +kernel
theorem d2_0 : decode prog_4_method_6_code 0 = .ok (.aload_n 0, 1) := by decide +kernel
theorem d2_1 : decode prog_4_method_6_code 1 = .ok (.getstatic 3, 3) := by decide +kernel
theorem d2_4 : decode prog_4_method_6_code 4 = .ok (.if_acmp .eq 14, 3) := by decide +kernel
theorem d2_18 : decode prog_4_method_6_code 18 = .ok (.iconst 0, 1) := by decide +kernel
theorem d2_19 : decode prog_4_method_6_code 19 = .ok (.ireturn, 1) := by decide +kernel
theorem ef_2 (m : MethodId) (u_EQUAL : Addr) : entryFrame m #[(.ref u_EQUAL)] 1 = mkF m 0 #[.val (.ref u_EQUAL)] [] := by first | (simp [entryFrame, mkF, argsToLocals, Value.category]; done) | rfl
def Q2 (Z : State) (u_EQUAL : Addr) (h0 : Heap) (n0 : Nat) (v : Option Value) (h : Heap) (L : List Loc) : Prop := v = some (.int (0 : Int32)) ∧ Fr n0 L ∧ h = h0
set_option maxRecDepth 65536 in
set_option maxHeartbeats 40000000 in
theorem rm2 (l : Launch) (Z : State) (a0 : Array Value) (hw : ∀ d ∈ tables_1, d.before a0 Z = true) (ws : List Jvm.Cond) (u_EQUAL : Addr) (h0 : Heap) (n0 : Nat) (Z0 : n0 ≤ h0.size) (S_EQUAL : Sta Z h0 "com/example/chop/chop/model/Relation" "EQUAL" "Lcom/example/chop/chop/model/Relation;" (.ref u_EQUAL)) :
    MetFree l (⟨"com/example/chop/chop/model/Relation", "isBound", "()Z"⟩ : MethodName) (head1 (Jvm.Cond.code (⟨"com/example/chop/chop/model/Relation", "isBound", "()Z"⟩ : MethodName) prog_4_method_6_code 1 (some .boolean) :: ws) ({ frames := 0, cells := 0, slots := 0, locals := 0 } : Room)) (fun a U => a = #[(.ref u_EQUAL)] ∧ Z.Warmed39 U.vm ∧ U.heap = h0) (fun _ _ _ _ _ => True) (fun _ U o U' => ∃ v L, o = .returned v ∧ Q2 Z u_EQUAL h0 n0 v U'.heap L ∧ FrameEnd U o U' L ({ frames := 0, cells := 0, slots := 0, locals := 0 } : Room).cells ({ frames := 0, cells := 0, slots := 0, locals := 0 } : Room).slots) := by
  refine MetFree.of_bodySF (plainFor_of_name pn_1) hisR ?_
  intro p e s m args below meth c s₁ Bd hml0 hP hK
  obtain ⟨rfl, hZ, hh⟩ := hP
  have hx := Bd.exec
  have hby := Bd.bytes
  have hml : c.maxLocals = 1 := hml0
  have hown : s.vm.findClass "com/example/chop/chop/model/Relation" = some m.cls := findClass_of_methodNamed Bd.named
  have hnm := (name_of_methodNamed Bd.named Bd.method).1
  have X0 : Stand p l e ({ frames := 0, cells := 0, slots := 0, locals := 0 } : Room) s m #[(.ref u_EQUAL)] below meth c s₁ [] 0 0 := Stand.of_body Bd
  have e0 : s₁.heap = h0 := by rw [← hh, Bd.state]; rfl
  have N0 := Fr.nil n0
  have pre0 : ∀ t, Steps p.tables e below (s₁.setTop (mkF m 0 #[.val (.ref u_EQUAL)] [])) t → Steps p.tables e below (s₁.setTop (entryFrame m #[(.ref u_EQUAL)] 1)) t := fun t k => castTop (ef_2 m u_EQUAL) k
  obtain ⟨T1, X1, e1, st1⟩ := getS2 X0 hx hZ hown (host := "") (Or.inl (hw _ (List.mem_of_getElem? (i := 29) rfl))) Via.refl e0 S_EQUAL (g := (mkF m 1 #[.val (.ref u_EQUAL)] [(.ref u_EQUAL)])) rfl (hb hby d2_1)
  have k2 : ∀ t, Steps p.tables e below (T1.setTop (mkF m 19 #[.val (.ref u_EQUAL)] [(.int (0 : Int32))])) t → Steps p.tables e below (s₁.setTop (entryFrame m #[(.ref u_EQUAL)] 1)) t := by
    intro t k
    refine pre0 t ?_
    show Steps p.tables e below (s₁.setTop (mkF m 0 #[.val (.ref u_EQUAL)] [])) _
    refine XS.aloadN X0.here hx rfl (hb hby d2_0) rfl rfl ?_
    show Steps p.tables e below (s₁.setTop (mkF m 1 #[.val (.ref u_EQUAL)] [(.ref u_EQUAL)])) _
    refine st1 _ ?_
    show Steps p.tables e below (T1.setTop (mkF m 4 #[.val (.ref u_EQUAL)] [(.ref u_EQUAL), (.ref u_EQUAL)])) _
    refine Jvm.RoadKit.acmp (g := (mkF m 4 #[.val (.ref u_EQUAL)] [(.ref u_EQUAL), (.ref u_EQUAL)])) X1 hx rfl rfl rfl (pc0 := 4) (pc' := 18) (same := true) rfl (hb hby d2_4) rfl (decide_eq_true rfl) (by decide) (by decide) ?_
    show Steps p.tables e below (T1.setTop (mkF m 18 #[.val (.ref u_EQUAL)] [])) _
    refine XS.iconst X1.here hx rfl (hb hby d2_18) ?_
    exact k
  obtain ⟨fs, hr, hrun, hended, hW, hsame⟩ := X1.leave (v := some (.int (0 : Int32))) (fun h => by rw [Bd.returns] at h; cases h)
  refine ⟨_, _, k2 _ ?_, hrun, hended, _, _, rfl, ?_, ⟨_, rfl⟩, hW, hsame.mono (by decide) (by decide)⟩
  · exact retN X1 hx (t := .boolean) Bd.returns (by simp) (hb hby d2_19) hr
  · show Q2 Z u_EQUAL h0 n0 _ T1.heap _
    rw [e1]
    exact ⟨rfl, N0, rfl⟩
theorem d3_0 : decode prog_4_method_8_code 0 = .ok (.aload_n 0, 1) := by decide +kernel
theorem d3_1 : decode prog_4_method_8_code 1 = .ok (.getstatic 10, 3) := by decide +kernel
theorem d3_4 : decode prog_4_method_8_code 4 = .ok (.if_acmp .eq 10, 3) := by decide +kernel
theorem d3_7 : decode prog_4_method_8_code 7 = .ok (.aload_n 0, 1) := by decide +kernel
theorem d3_8 : decode prog_4_method_8_code 8 = .ok (.getstatic 16, 3) := by decide +kernel
theorem d3_11 : decode prog_4_method_8_code 11 = .ok (.if_acmp .ne 7, 3) := by decide +kernel
theorem d3_18 : decode prog_4_method_8_code 18 = .ok (.iconst 0, 1) := by decide +kernel
theorem d3_19 : decode prog_4_method_8_code 19 = .ok (.ireturn, 1) := by decide +kernel
theorem ef_3 (m : MethodId) (u_EQUAL : Addr) : entryFrame m #[(.ref u_EQUAL)] 1 = mkF m 0 #[.val (.ref u_EQUAL)] [] := by first | (simp [entryFrame, mkF, argsToLocals, Value.category]; done) | rfl
def Q3 (Z : State) (u_EQUAL : Addr) (u_LESS : Addr) (u_GREATER : Addr) (h0 : Heap) (n0 : Nat) (v : Option Value) (h : Heap) (L : List Loc) : Prop := v = some (.int (0 : Int32)) ∧ Fr n0 L ∧ h = h0
set_option maxRecDepth 65536 in
set_option maxHeartbeats 40000000 in
theorem rm3 (l : Launch) (Z : State) (a0 : Array Value) (hw : ∀ d ∈ tables_1, d.before a0 Z = true) (ws : List Jvm.Cond) (u_EQUAL : Addr) (u_LESS : Addr) (u_GREATER : Addr) (h0 : Heap) (n0 : Nat) (Z0 : n0 ≤ h0.size) (S_LESS : Sta Z h0 "com/example/chop/chop/model/Relation" "LESS" "Lcom/example/chop/chop/model/Relation;" (.ref u_LESS)) (S_GREATER : Sta Z h0 "com/example/chop/chop/model/Relation" "GREATER" "Lcom/example/chop/chop/model/Relation;" (.ref u_GREATER)) (hne_LESS : u_EQUAL ≠ u_LESS) (hne_GREATER : u_EQUAL ≠ u_GREATER) :
    MetFree l (⟨"com/example/chop/chop/model/Relation", "isStrict", "()Z"⟩ : MethodName) (head1 (Jvm.Cond.code (⟨"com/example/chop/chop/model/Relation", "isStrict", "()Z"⟩ : MethodName) prog_4_method_8_code 1 (some .boolean) :: ws) ({ frames := 0, cells := 0, slots := 0, locals := 0 } : Room)) (fun a U => a = #[(.ref u_EQUAL)] ∧ Z.Warmed39 U.vm ∧ U.heap = h0) (fun _ _ _ _ _ => True) (fun _ U o U' => ∃ v L, o = .returned v ∧ Q3 Z u_EQUAL u_LESS u_GREATER h0 n0 v U'.heap L ∧ FrameEnd U o U' L ({ frames := 0, cells := 0, slots := 0, locals := 0 } : Room).cells ({ frames := 0, cells := 0, slots := 0, locals := 0 } : Room).slots) := by
  refine MetFree.of_bodySF (plainFor_of_name pn_1) hisR ?_
  intro p e s m args below meth c s₁ Bd hml0 hP hK
  obtain ⟨rfl, hZ, hh⟩ := hP
  have hx := Bd.exec
  have hby := Bd.bytes
  have hml : c.maxLocals = 1 := hml0
  have hown : s.vm.findClass "com/example/chop/chop/model/Relation" = some m.cls := findClass_of_methodNamed Bd.named
  have hnm := (name_of_methodNamed Bd.named Bd.method).1
  have X0 : Stand p l e ({ frames := 0, cells := 0, slots := 0, locals := 0 } : Room) s m #[(.ref u_EQUAL)] below meth c s₁ [] 0 0 := Stand.of_body Bd
  have e0 : s₁.heap = h0 := by rw [← hh, Bd.state]; rfl
  have N0 := Fr.nil n0
  have pre0 : ∀ t, Steps p.tables e below (s₁.setTop (mkF m 0 #[.val (.ref u_EQUAL)] [])) t → Steps p.tables e below (s₁.setTop (entryFrame m #[(.ref u_EQUAL)] 1)) t := fun t k => castTop (ef_3 m u_EQUAL) k
  obtain ⟨T1, X1, e1, st1⟩ := getS2 X0 hx hZ hown (host := "") (Or.inl (hw _ (List.mem_of_getElem? (i := 22) rfl))) Via.refl e0 S_LESS (g := (mkF m 1 #[.val (.ref u_EQUAL)] [(.ref u_EQUAL)])) rfl (hb hby d3_1)
  obtain ⟨T2, X2, e2, st2⟩ := getS2 X1 hx hZ hown (host := "") (Or.inl (hw _ (List.mem_of_getElem? (i := 23) rfl))) Via.refl e1 S_GREATER (g := (mkF m 8 #[.val (.ref u_EQUAL)] [(.ref u_EQUAL)])) rfl (hb hby d3_8)
  have k3 : ∀ t, Steps p.tables e below (T2.setTop (mkF m 19 #[.val (.ref u_EQUAL)] [(.int (0 : Int32))])) t → Steps p.tables e below (s₁.setTop (entryFrame m #[(.ref u_EQUAL)] 1)) t := by
    intro t k
    refine pre0 t ?_
    show Steps p.tables e below (s₁.setTop (mkF m 0 #[.val (.ref u_EQUAL)] [])) _
    refine XS.aloadN X0.here hx rfl (hb hby d3_0) rfl rfl ?_
    show Steps p.tables e below (s₁.setTop (mkF m 1 #[.val (.ref u_EQUAL)] [(.ref u_EQUAL)])) _
    refine st1 _ ?_
    show Steps p.tables e below (T1.setTop (mkF m 4 #[.val (.ref u_EQUAL)] [(.ref u_LESS), (.ref u_EQUAL)])) _
    refine Jvm.RoadKit.acmp (g := (mkF m 4 #[.val (.ref u_EQUAL)] [(.ref u_LESS), (.ref u_EQUAL)])) X1 hx rfl rfl rfl (pc0 := 4) (pc' := 7) (same := false) rfl (hb hby d3_4) rfl (decide_eq_false fun q => hne_LESS (Value.ref.inj q)) (by decide) (by decide) ?_
    show Steps p.tables e below (T1.setTop (mkF m 7 #[.val (.ref u_EQUAL)] [])) _
    refine XS.aloadN X1.here hx rfl (hb hby d3_7) rfl rfl ?_
    show Steps p.tables e below (T1.setTop (mkF m 8 #[.val (.ref u_EQUAL)] [(.ref u_EQUAL)])) _
    refine st2 _ ?_
    show Steps p.tables e below (T2.setTop (mkF m 11 #[.val (.ref u_EQUAL)] [(.ref u_GREATER), (.ref u_EQUAL)])) _
    refine Jvm.RoadKit.acmp (g := (mkF m 11 #[.val (.ref u_EQUAL)] [(.ref u_GREATER), (.ref u_EQUAL)])) X2 hx rfl rfl rfl (pc0 := 11) (pc' := 18) (same := false) rfl (hb hby d3_11) rfl (decide_eq_false fun q => hne_GREATER (Value.ref.inj q)) (by decide) (by decide) ?_
    show Steps p.tables e below (T2.setTop (mkF m 18 #[.val (.ref u_EQUAL)] [])) _
    refine XS.iconst X2.here hx rfl (hb hby d3_18) ?_
    exact k
  obtain ⟨fs, hr, hrun, hended, hW, hsame⟩ := X2.leave (v := some (.int (0 : Int32))) (fun h => by rw [Bd.returns] at h; cases h)
  refine ⟨_, _, k3 _ ?_, hrun, hended, _, _, rfl, ?_, ⟨_, rfl⟩, hW, hsame.mono (by decide) (by decide)⟩
  · exact retN X2 hx (t := .boolean) Bd.returns (by simp) (hb hby d3_19) hr
  · show Q3 Z u_EQUAL u_LESS u_GREATER h0 n0 _ T2.heap _
    rw [e2]
    exact ⟨rfl, N0, rfl⟩
theorem pd_0 : parseMethodDescriptor "()I" = some ⟨[], some .int⟩ := by decide +kernel
theorem d4_0 : decode prog_4_method_10_code 0 = .ok (.aload_n 0, 1) := by decide +kernel
theorem d4_1 : decode prog_4_method_10_code 1 = .ok (.invokevirtual 48, 3) := by decide +kernel
theorem d4_4 : decode prog_4_method_10_code 4 = .ok (.tableswitch 40 0 5 #[50, 62, 74, 86, 98, 110], 40) := by decide +kernel
theorem d4_54 : decode prog_4_method_10_code 54 = .ok (.iload_n 1, 1) := by decide +kernel
theorem d4_55 : decode prog_4_method_10_code 55 = .ok (.ifCond .ne 7, 3) := by decide +kernel
theorem d4_58 : decode prog_4_method_10_code 58 = .ok (.iconst 1, 1) := by decide +kernel
theorem d4_59 : decode prog_4_method_10_code 59 = .ok (.goto 64, 3) := by decide +kernel
theorem d4_123 : decode prog_4_method_10_code 123 = .ok (.ireturn, 1) := by decide +kernel
theorem ef_4 (m : MethodId) (u_EQUAL : Addr) : entryFrame m #[(.ref u_EQUAL), (.int (0 : Int32))] 2 = mkF m 0 #[.val (.ref u_EQUAL), .val (.int (0 : Int32))] [] := by first | (simp [entryFrame, mkF, argsToLocals, Value.category]; done) | rfl
def Q4 (Z : State) (u_EQUAL : Addr) (h0 : Heap) (n0 : Nat) (v : Option Value) (h : Heap) (L : List Loc) : Prop := v = some (.int (1 : Int32)) ∧ Fr n0 L ∧ h = h0
set_option maxRecDepth 65536 in
set_option maxHeartbeats 40000000 in
theorem rm4 (l : Launch) (Z : State) (a0 : Array Value) (hw : ∀ d ∈ tables_1, d.before a0 Z = true) (ws : List Jvm.Cond) (u_EQUAL : Addr) (h0 : Heap) (n0 : Nat) (Z0 : n0 ≤ h0.size) (Ex : Exa Z h0 u_EQUAL "com/example/chop/chop/model/Relation") (Fo : Fld Z h0 u_EQUAL "java/lang/Enum" "ordinal" "I" (.int (0 : Int32))) :
    MetFree l (⟨"com/example/chop/chop/model/Relation", "holds", "(I)Z"⟩ : MethodName) (head1 (Jvm.Cond.code (⟨"com/example/chop/chop/model/Relation", "holds", "(I)Z"⟩ : MethodName) prog_4_method_10_code 2 (some .boolean) :: ws) ({ frames := 1, cells := 0, slots := 0, locals := 12 } : Room)) (fun a U => a = #[(.ref u_EQUAL), (.int (0 : Int32))] ∧ Z.Warmed39 U.vm ∧ U.heap = h0) (fun _ _ _ _ _ => True) (fun _ U o U' => ∃ v L, o = .returned v ∧ Q4 Z u_EQUAL h0 n0 v U'.heap L ∧ FrameEnd U o U' L ({ frames := 1, cells := 0, slots := 0, locals := 12 } : Room).cells ({ frames := 1, cells := 0, slots := 0, locals := 12 } : Room).slots) := by
  refine MetFree.of_bodySF (plainFor_of_name pn_1) hisR ?_
  intro p e s m args below meth c s₁ Bd hml0 hP hK
  obtain ⟨rfl, hZ, hh⟩ := hP
  have hx := Bd.exec
  have hby := Bd.bytes
  have hml : c.maxLocals = 2 := hml0
  have hown : s.vm.findClass "com/example/chop/chop/model/Relation" = some m.cls := findClass_of_methodNamed Bd.named
  have hnm := (name_of_methodNamed Bd.named Bd.method).1
  have X0 : Stand p l e ({ frames := 1, cells := 0, slots := 0, locals := 12 } : Room) s m #[(.ref u_EQUAL), (.int (0 : Int32))] below meth c s₁ [] 0 0 := Stand.of_body Bd
  have e0 : s₁.heap = h0 := by rw [← hh, Bd.state]; rfl
  have N0 := Fr.nil n0
  have pre0 : ∀ t, Steps p.tables e below (s₁.setTop (mkF m 0 #[.val (.ref u_EQUAL), .val (.int (0 : Int32))] [])) t → Steps p.tables e below (s₁.setTop (entryFrame m #[(.ref u_EQUAL), (.int (0 : Int32))] 2)) t := fun t k => castTop (ef_4 m u_EQUAL) k
  obtain ⟨cq1, kq1, q1a, q1b, q1c⟩ := isOf hZ e0 Ex
  obtain ⟨_, _, ⟨T1, L1, k1, n1⟩, -, X1, ⟨Lc1, hQ1, l1, y1, z1⟩, st1⟩ := X0.virtualBackUp hx (x := (⟨"com/example/chop/chop/model/Relation", "ordinal", "()I"⟩ : MethodName)) (y := (⟨"java/lang/Enum", "ordinal", "()I"⟩ : MethodName)) (owner := "java/lang/Enum") hown (mvT hZ (hw _ (List.mem_of_getElem? (i := 36) rfl))) (mvT hZ (hw _ (List.mem_of_getElem? (i := 37) rfl))) (mvT hZ (hw _ (List.mem_of_getElem? (i := 38) rfl))) (by decide) (mvT hZ (hw _ (List.mem_of_getElem? (i := 40) rfl))) (mvT hZ (hw _ (List.mem_of_getElem? (i := 39) rfl))) (backOf (W := 0) (rm1 l Z a0 hw [] u_EQUAL h0 n0 Z0 Fo) hZ (hw _ (List.mem_of_getElem? (i := 42) rfl)) (hw _ (List.mem_of_getElem? (i := 41) rfl)) (by decide) (by decide)) q1a q1c (g := (mkF m 1 #[.val (.ref u_EQUAL), .val (.int (0 : Int32))] [(.ref u_EQUAL)])) rfl (by rw [hml]; rfl) (Steps.refl _) (argsL := []) (rest := []) (lenOf pd_0 rfl) rfl (by show 2 * 0 + _ ≤ _; exact Nat.le_of_eq rfl) (hb hby d4_1) (fun _ _ => ⟨rfl, e0, (by decide : 0 + 0 ≤ _), (by decide : 0 + 0 ≤ _)⟩)
  dsimp only [Pt.U, Pt.locs, Pt.cells, Pt.slots] at X1 l1 y1 z1 st1 hQ1
  subst l1 y1 z1
  obtain ⟨rfl, N1q, eh1⟩ := hQ1
  have N1 := Fr.app N0 N1q
  have k2 : ∀ t, Steps p.tables e below (T1.setTop (mkF m 123 #[.val (.ref u_EQUAL), .val (.int (0 : Int32))] [(.int (1 : Int32))])) t → Steps p.tables e below (s₁.setTop (entryFrame m #[(.ref u_EQUAL), (.int (0 : Int32))] 2)) t := by
    intro t k
    refine pre0 t ?_
    show Steps p.tables e below (s₁.setTop (mkF m 0 #[.val (.ref u_EQUAL), .val (.int (0 : Int32))] [])) _
    refine XS.aloadN X0.here hx rfl (hb hby d4_0) rfl rfl ?_
    show Steps p.tables e below (s₁.setTop (mkF m 1 #[.val (.ref u_EQUAL), .val (.int (0 : Int32))] [(.ref u_EQUAL)])) _
    refine st1.trans ?_
    show Steps p.tables e below (T1.setTop (mkF m 4 #[.val (.ref u_EQUAL), .val (.int (0 : Int32))] [(.int (0 : Int32))])) _
    refine XS.tswIn X1.here hx rfl (pc0 := 4) (pc' := 54) rfl (hb hby d4_4) rfl (by decide) rfl (by decide) (by decide) ?_
    show Steps p.tables e below (T1.setTop (mkF m 54 #[.val (.ref u_EQUAL), .val (.int (0 : Int32))] [])) _
    refine XS.iloadN X1.here hx rfl (hb hby d4_54) rfl ?_
    show Steps p.tables e below (T1.setTop (mkF m 55 #[.val (.ref u_EQUAL), .val (.int (0 : Int32))] [(.int (0 : Int32))])) _
    refine XS.ifNo X1.here hx rfl (hb hby d4_55) rfl ((if0 _ _).trans (teq (by decide : (0 : Int32) = (0 : Int32))).2) ?_
    show Steps p.tables e below (T1.setTop (mkF m 58 #[.val (.ref u_EQUAL), .val (.int (0 : Int32))] [])) _
    refine XS.iconst X1.here hx rfl (hb hby d4_58) ?_
    show Steps p.tables e below (T1.setTop (mkF m 59 #[.val (.ref u_EQUAL), .val (.int (0 : Int32))] [(.int (1 : Int32))])) _
    refine XS.goto X1.here hx rfl (pc0 := 59) (pc' := 123) rfl (hb hby d4_59) (by decide) (by decide) ?_
    exact k
  obtain ⟨fs, hr, hrun, hended, hW, hsame⟩ := X1.leave (v := some (.int (1 : Int32))) (fun h => by rw [Bd.returns] at h; cases h)
  refine ⟨_, _, k2 _ ?_, hrun, hended, _, _, rfl, ?_, ⟨_, rfl⟩, hW, hsame.mono (by decide) (by decide)⟩
  · exact retN X1 hx (t := .boolean) Bd.returns (by simp) (hb hby d4_123) hr
  · show Q4 Z u_EQUAL h0 n0 _ T1.heap _
    rw [eh1]
    exact ⟨rfl, N1, rfl⟩
theorem d5_0 : decode jdk_37_method_2_code 0 = .ok (.aload_n 0, 1) := by decide +kernel
theorem d5_1 : decode jdk_37_method_2_code 1 = .ok (.getfield 7, 3) := by decide +kernel
theorem d5_4 : decode jdk_37_method_2_code 4 = .ok (.ireturn, 1) := by decide +kernel
theorem ef_5 (m : MethodId) (a5_0 : Addr) : entryFrame m #[(.ref a5_0)] 1 = mkF m 0 #[.val (.ref a5_0)] [] := by first | (simp [entryFrame, mkF, argsToLocals, Value.category]; done) | rfl
def Q5 (Z : State) (a5_0 : Addr) (h0 : Heap) (n0 : Nat) (v : Option Value) (h : Heap) (L : List Loc) : Prop := v = some (.int (1 : Int32)) ∧ Fr n0 L ∧ h = h0
set_option maxRecDepth 65536 in
set_option maxHeartbeats 40000000 in
theorem rm5 (l : Launch) (Z : State) (a0 : Array Value) (hw : ∀ d ∈ tables_1, d.before a0 Z = true) (ws : List Jvm.Cond) (a5_0 : Addr) (h0 : Heap) (n0 : Nat) (Z0 : n0 ≤ h0.size) (Fo : Fld Z h0 a5_0 "java/lang/Enum" "ordinal" "I" (.int (1 : Int32))) :
    MetFree l (⟨"java/lang/Enum", "ordinal", "()I"⟩ : MethodName) (head1 (Jvm.Cond.code (⟨"java/lang/Enum", "ordinal", "()I"⟩ : MethodName) jdk_37_method_2_code 1 (some .int) :: ws) ({ frames := 0, cells := 0, slots := 0, locals := 0 } : Room)) (fun a U => a = #[(.ref a5_0)] ∧ Z.Warmed39 U.vm ∧ U.heap = h0) (fun _ _ _ _ _ => True) (fun _ U o U' => ∃ v L, o = .returned v ∧ Q5 Z a5_0 h0 n0 v U'.heap L ∧ FrameEnd U o U' L ({ frames := 0, cells := 0, slots := 0, locals := 0 } : Room).cells ({ frames := 0, cells := 0, slots := 0, locals := 0 } : Room).slots) := by
  refine MetFree.of_bodySF (plainFor_of_name pn_0) hisR ?_
  intro p e s m args below meth c s₁ Bd hml0 hP hK
  obtain ⟨rfl, hZ, hh⟩ := hP
  have hx := Bd.exec
  have hby := Bd.bytes
  have hml : c.maxLocals = 1 := hml0
  have hown : s.vm.findClass "java/lang/Enum" = some m.cls := findClass_of_methodNamed Bd.named
  have hnm := (name_of_methodNamed Bd.named Bd.method).1
  have X0 : Stand p l e ({ frames := 0, cells := 0, slots := 0, locals := 0 } : Room) s m #[(.ref a5_0)] below meth c s₁ [] 0 0 := Stand.of_body Bd
  have e0 : s₁.heap = h0 := by rw [← hh, Bd.state]; rfl
  have N0 := Fr.nil n0
  have pre0 : ∀ t, Steps p.tables e below (s₁.setTop (mkF m 0 #[.val (.ref a5_0)] [])) t → Steps p.tables e below (s₁.setTop (entryFrame m #[(.ref a5_0)] 1)) t := fun t k => castTop (ef_5 m a5_0) k
  obtain ⟨T1, X1, e1, st1⟩ := getF X0 hx hZ hown (host := "") (Or.inl (hw _ (List.mem_of_getElem? (i := 43) rfl))) Via.refl e0 Fo (g := (mkF m 1 #[.val (.ref a5_0)] [(.ref a5_0)])) rfl rfl (hb hby d5_1)
  have k2 : ∀ t, Steps p.tables e below (T1.setTop (mkF m 4 #[.val (.ref a5_0)] [(.int (1 : Int32))])) t → Steps p.tables e below (s₁.setTop (entryFrame m #[(.ref a5_0)] 1)) t := by
    intro t k
    refine pre0 t ?_
    show Steps p.tables e below (s₁.setTop (mkF m 0 #[.val (.ref a5_0)] [])) _
    refine XS.aloadN X0.here hx rfl (hb hby d5_0) rfl rfl ?_
    show Steps p.tables e below (s₁.setTop (mkF m 1 #[.val (.ref a5_0)] [(.ref a5_0)])) _
    refine st1 _ ?_
    exact k
  obtain ⟨fs, hr, hrun, hended, hW, hsame⟩ := X1.leave (v := some (.int (1 : Int32))) (fun h => by rw [Bd.returns] at h; cases h)
  refine ⟨_, _, k2 _ ?_, hrun, hended, _, _, rfl, ?_, ⟨_, rfl⟩, hW, hsame.mono (by decide) (by decide)⟩
  · exact retI X1 hx Bd.returns (hb hby d5_4) hr
  · show Q5 Z a5_0 h0 n0 _ T1.heap _
    rw [e1]
    exact ⟨rfl, N0, rfl⟩
theorem d6_0 : decode prog_4_method_6_code 0 = .ok (.aload_n 0, 1) := by decide +kernel
theorem d6_1 : decode prog_4_method_6_code 1 = .ok (.getstatic 3, 3) := by decide +kernel
theorem d6_4 : decode prog_4_method_6_code 4 = .ok (.if_acmp .eq 14, 3) := by decide +kernel
theorem d6_7 : decode prog_4_method_6_code 7 = .ok (.aload_n 0, 1) := by decide +kernel
theorem d6_8 : decode prog_4_method_6_code 8 = .ok (.getstatic 7, 3) := by decide +kernel
theorem d6_11 : decode prog_4_method_6_code 11 = .ok (.if_acmp .eq 7, 3) := by decide +kernel
theorem d6_18 : decode prog_4_method_6_code 18 = .ok (.iconst 0, 1) := by decide +kernel
theorem d6_19 : decode prog_4_method_6_code 19 = .ok (.ireturn, 1) := by decide +kernel
theorem ef_6 (m : MethodId) (u_NOT_EQUAL : Addr) : entryFrame m #[(.ref u_NOT_EQUAL)] 1 = mkF m 0 #[.val (.ref u_NOT_EQUAL)] [] := by first | (simp [entryFrame, mkF, argsToLocals, Value.category]; done) | rfl
def Q6 (Z : State) (u_NOT_EQUAL : Addr) (u_EQUAL : Addr) (h0 : Heap) (n0 : Nat) (v : Option Value) (h : Heap) (L : List Loc) : Prop := v = some (.int (0 : Int32)) ∧ Fr n0 L ∧ h = h0
set_option maxRecDepth 65536 in
set_option maxHeartbeats 40000000 in
theorem rm6 (l : Launch) (Z : State) (a0 : Array Value) (hw : ∀ d ∈ tables_1, d.before a0 Z = true) (ws : List Jvm.Cond) (u_NOT_EQUAL : Addr) (u_EQUAL : Addr) (h0 : Heap) (n0 : Nat) (Z0 : n0 ≤ h0.size) (S_EQUAL : Sta Z h0 "com/example/chop/chop/model/Relation" "EQUAL" "Lcom/example/chop/chop/model/Relation;" (.ref u_EQUAL)) (S_NOT_EQUAL : Sta Z h0 "com/example/chop/chop/model/Relation" "NOT_EQUAL" "Lcom/example/chop/chop/model/Relation;" (.ref u_NOT_EQUAL)) (hne_EQUAL : u_NOT_EQUAL ≠ u_EQUAL) :
    MetFree l (⟨"com/example/chop/chop/model/Relation", "isBound", "()Z"⟩ : MethodName) (head1 (Jvm.Cond.code (⟨"com/example/chop/chop/model/Relation", "isBound", "()Z"⟩ : MethodName) prog_4_method_6_code 1 (some .boolean) :: ws) ({ frames := 0, cells := 0, slots := 0, locals := 0 } : Room)) (fun a U => a = #[(.ref u_NOT_EQUAL)] ∧ Z.Warmed39 U.vm ∧ U.heap = h0) (fun _ _ _ _ _ => True) (fun _ U o U' => ∃ v L, o = .returned v ∧ Q6 Z u_NOT_EQUAL u_EQUAL h0 n0 v U'.heap L ∧ FrameEnd U o U' L ({ frames := 0, cells := 0, slots := 0, locals := 0 } : Room).cells ({ frames := 0, cells := 0, slots := 0, locals := 0 } : Room).slots) := by
  refine MetFree.of_bodySF (plainFor_of_name pn_1) hisR ?_
  intro p e s m args below meth c s₁ Bd hml0 hP hK
  obtain ⟨rfl, hZ, hh⟩ := hP
  have hx := Bd.exec
  have hby := Bd.bytes
  have hml : c.maxLocals = 1 := hml0
  have hown : s.vm.findClass "com/example/chop/chop/model/Relation" = some m.cls := findClass_of_methodNamed Bd.named
  have hnm := (name_of_methodNamed Bd.named Bd.method).1
  have X0 : Stand p l e ({ frames := 0, cells := 0, slots := 0, locals := 0 } : Room) s m #[(.ref u_NOT_EQUAL)] below meth c s₁ [] 0 0 := Stand.of_body Bd
  have e0 : s₁.heap = h0 := by rw [← hh, Bd.state]; rfl
  have N0 := Fr.nil n0
  have pre0 : ∀ t, Steps p.tables e below (s₁.setTop (mkF m 0 #[.val (.ref u_NOT_EQUAL)] [])) t → Steps p.tables e below (s₁.setTop (entryFrame m #[(.ref u_NOT_EQUAL)] 1)) t := fun t k => castTop (ef_6 m u_NOT_EQUAL) k
  obtain ⟨T1, X1, e1, st1⟩ := getS2 X0 hx hZ hown (host := "") (Or.inl (hw _ (List.mem_of_getElem? (i := 29) rfl))) Via.refl e0 S_EQUAL (g := (mkF m 1 #[.val (.ref u_NOT_EQUAL)] [(.ref u_NOT_EQUAL)])) rfl (hb hby d6_1)
  obtain ⟨T2, X2, e2, st2⟩ := getS2 X1 hx hZ hown (host := "") (Or.inl (hw _ (List.mem_of_getElem? (i := 30) rfl))) Via.refl e1 S_NOT_EQUAL (g := (mkF m 8 #[.val (.ref u_NOT_EQUAL)] [(.ref u_NOT_EQUAL)])) rfl (hb hby d6_8)
  have k3 : ∀ t, Steps p.tables e below (T2.setTop (mkF m 19 #[.val (.ref u_NOT_EQUAL)] [(.int (0 : Int32))])) t → Steps p.tables e below (s₁.setTop (entryFrame m #[(.ref u_NOT_EQUAL)] 1)) t := by
    intro t k
    refine pre0 t ?_
    show Steps p.tables e below (s₁.setTop (mkF m 0 #[.val (.ref u_NOT_EQUAL)] [])) _
    refine XS.aloadN X0.here hx rfl (hb hby d6_0) rfl rfl ?_
    show Steps p.tables e below (s₁.setTop (mkF m 1 #[.val (.ref u_NOT_EQUAL)] [(.ref u_NOT_EQUAL)])) _
    refine st1 _ ?_
    show Steps p.tables e below (T1.setTop (mkF m 4 #[.val (.ref u_NOT_EQUAL)] [(.ref u_EQUAL), (.ref u_NOT_EQUAL)])) _
    refine Jvm.RoadKit.acmp (g := (mkF m 4 #[.val (.ref u_NOT_EQUAL)] [(.ref u_EQUAL), (.ref u_NOT_EQUAL)])) X1 hx rfl rfl rfl (pc0 := 4) (pc' := 7) (same := false) rfl (hb hby d6_4) rfl (decide_eq_false fun q => hne_EQUAL (Value.ref.inj q)) (by decide) (by decide) ?_
    show Steps p.tables e below (T1.setTop (mkF m 7 #[.val (.ref u_NOT_EQUAL)] [])) _
    refine XS.aloadN X1.here hx rfl (hb hby d6_7) rfl rfl ?_
    show Steps p.tables e below (T1.setTop (mkF m 8 #[.val (.ref u_NOT_EQUAL)] [(.ref u_NOT_EQUAL)])) _
    refine st2 _ ?_
    show Steps p.tables e below (T2.setTop (mkF m 11 #[.val (.ref u_NOT_EQUAL)] [(.ref u_NOT_EQUAL), (.ref u_NOT_EQUAL)])) _
    refine Jvm.RoadKit.acmp (g := (mkF m 11 #[.val (.ref u_NOT_EQUAL)] [(.ref u_NOT_EQUAL), (.ref u_NOT_EQUAL)])) X2 hx rfl rfl rfl (pc0 := 11) (pc' := 18) (same := true) rfl (hb hby d6_11) rfl (decide_eq_true rfl) (by decide) (by decide) ?_
    show Steps p.tables e below (T2.setTop (mkF m 18 #[.val (.ref u_NOT_EQUAL)] [])) _
    refine XS.iconst X2.here hx rfl (hb hby d6_18) ?_
    exact k
  obtain ⟨fs, hr, hrun, hended, hW, hsame⟩ := X2.leave (v := some (.int (0 : Int32))) (fun h => by rw [Bd.returns] at h; cases h)
  refine ⟨_, _, k3 _ ?_, hrun, hended, _, _, rfl, ?_, ⟨_, rfl⟩, hW, hsame.mono (by decide) (by decide)⟩
  · exact retN X2 hx (t := .boolean) Bd.returns (by simp) (hb hby d6_19) hr
  · show Q6 Z u_NOT_EQUAL u_EQUAL h0 n0 _ T2.heap _
    rw [e2]
    exact ⟨rfl, N0, rfl⟩
theorem d7_0 : decode prog_4_method_8_code 0 = .ok (.aload_n 0, 1) := by decide +kernel
theorem d7_1 : decode prog_4_method_8_code 1 = .ok (.getstatic 10, 3) := by decide +kernel
theorem d7_4 : decode prog_4_method_8_code 4 = .ok (.if_acmp .eq 10, 3) := by decide +kernel
theorem d7_7 : decode prog_4_method_8_code 7 = .ok (.aload_n 0, 1) := by decide +kernel
theorem d7_8 : decode prog_4_method_8_code 8 = .ok (.getstatic 16, 3) := by decide +kernel
theorem d7_11 : decode prog_4_method_8_code 11 = .ok (.if_acmp .ne 7, 3) := by decide +kernel
theorem d7_18 : decode prog_4_method_8_code 18 = .ok (.iconst 0, 1) := by decide +kernel
theorem d7_19 : decode prog_4_method_8_code 19 = .ok (.ireturn, 1) := by decide +kernel
theorem ef_7 (m : MethodId) (u_NOT_EQUAL : Addr) : entryFrame m #[(.ref u_NOT_EQUAL)] 1 = mkF m 0 #[.val (.ref u_NOT_EQUAL)] [] := by first | (simp [entryFrame, mkF, argsToLocals, Value.category]; done) | rfl
def Q7 (Z : State) (u_NOT_EQUAL : Addr) (u_LESS : Addr) (u_GREATER : Addr) (h0 : Heap) (n0 : Nat) (v : Option Value) (h : Heap) (L : List Loc) : Prop := v = some (.int (0 : Int32)) ∧ Fr n0 L ∧ h = h0
set_option maxRecDepth 65536 in
set_option maxHeartbeats 40000000 in
theorem rm7 (l : Launch) (Z : State) (a0 : Array Value) (hw : ∀ d ∈ tables_1, d.before a0 Z = true) (ws : List Jvm.Cond) (u_NOT_EQUAL : Addr) (u_LESS : Addr) (u_GREATER : Addr) (h0 : Heap) (n0 : Nat) (Z0 : n0 ≤ h0.size) (S_LESS : Sta Z h0 "com/example/chop/chop/model/Relation" "LESS" "Lcom/example/chop/chop/model/Relation;" (.ref u_LESS)) (S_GREATER : Sta Z h0 "com/example/chop/chop/model/Relation" "GREATER" "Lcom/example/chop/chop/model/Relation;" (.ref u_GREATER)) (hne_LESS : u_NOT_EQUAL ≠ u_LESS) (hne_GREATER : u_NOT_EQUAL ≠ u_GREATER) :
    MetFree l (⟨"com/example/chop/chop/model/Relation", "isStrict", "()Z"⟩ : MethodName) (head1 (Jvm.Cond.code (⟨"com/example/chop/chop/model/Relation", "isStrict", "()Z"⟩ : MethodName) prog_4_method_8_code 1 (some .boolean) :: ws) ({ frames := 0, cells := 0, slots := 0, locals := 0 } : Room)) (fun a U => a = #[(.ref u_NOT_EQUAL)] ∧ Z.Warmed39 U.vm ∧ U.heap = h0) (fun _ _ _ _ _ => True) (fun _ U o U' => ∃ v L, o = .returned v ∧ Q7 Z u_NOT_EQUAL u_LESS u_GREATER h0 n0 v U'.heap L ∧ FrameEnd U o U' L ({ frames := 0, cells := 0, slots := 0, locals := 0 } : Room).cells ({ frames := 0, cells := 0, slots := 0, locals := 0 } : Room).slots) := by
  refine MetFree.of_bodySF (plainFor_of_name pn_1) hisR ?_
  intro p e s m args below meth c s₁ Bd hml0 hP hK
  obtain ⟨rfl, hZ, hh⟩ := hP
  have hx := Bd.exec
  have hby := Bd.bytes
  have hml : c.maxLocals = 1 := hml0
  have hown : s.vm.findClass "com/example/chop/chop/model/Relation" = some m.cls := findClass_of_methodNamed Bd.named
  have hnm := (name_of_methodNamed Bd.named Bd.method).1
  have X0 : Stand p l e ({ frames := 0, cells := 0, slots := 0, locals := 0 } : Room) s m #[(.ref u_NOT_EQUAL)] below meth c s₁ [] 0 0 := Stand.of_body Bd
  have e0 : s₁.heap = h0 := by rw [← hh, Bd.state]; rfl
  have N0 := Fr.nil n0
  have pre0 : ∀ t, Steps p.tables e below (s₁.setTop (mkF m 0 #[.val (.ref u_NOT_EQUAL)] [])) t → Steps p.tables e below (s₁.setTop (entryFrame m #[(.ref u_NOT_EQUAL)] 1)) t := fun t k => castTop (ef_7 m u_NOT_EQUAL) k
  obtain ⟨T1, X1, e1, st1⟩ := getS2 X0 hx hZ hown (host := "") (Or.inl (hw _ (List.mem_of_getElem? (i := 22) rfl))) Via.refl e0 S_LESS (g := (mkF m 1 #[.val (.ref u_NOT_EQUAL)] [(.ref u_NOT_EQUAL)])) rfl (hb hby d7_1)
  obtain ⟨T2, X2, e2, st2⟩ := getS2 X1 hx hZ hown (host := "") (Or.inl (hw _ (List.mem_of_getElem? (i := 23) rfl))) Via.refl e1 S_GREATER (g := (mkF m 8 #[.val (.ref u_NOT_EQUAL)] [(.ref u_NOT_EQUAL)])) rfl (hb hby d7_8)
  have k3 : ∀ t, Steps p.tables e below (T2.setTop (mkF m 19 #[.val (.ref u_NOT_EQUAL)] [(.int (0 : Int32))])) t → Steps p.tables e below (s₁.setTop (entryFrame m #[(.ref u_NOT_EQUAL)] 1)) t := by
    intro t k
    refine pre0 t ?_
    show Steps p.tables e below (s₁.setTop (mkF m 0 #[.val (.ref u_NOT_EQUAL)] [])) _
    refine XS.aloadN X0.here hx rfl (hb hby d7_0) rfl rfl ?_
    show Steps p.tables e below (s₁.setTop (mkF m 1 #[.val (.ref u_NOT_EQUAL)] [(.ref u_NOT_EQUAL)])) _
    refine st1 _ ?_
    show Steps p.tables e below (T1.setTop (mkF m 4 #[.val (.ref u_NOT_EQUAL)] [(.ref u_LESS), (.ref u_NOT_EQUAL)])) _
    refine Jvm.RoadKit.acmp (g := (mkF m 4 #[.val (.ref u_NOT_EQUAL)] [(.ref u_LESS), (.ref u_NOT_EQUAL)])) X1 hx rfl rfl rfl (pc0 := 4) (pc' := 7) (same := false) rfl (hb hby d7_4) rfl (decide_eq_false fun q => hne_LESS (Value.ref.inj q)) (by decide) (by decide) ?_
    show Steps p.tables e below (T1.setTop (mkF m 7 #[.val (.ref u_NOT_EQUAL)] [])) _
    refine XS.aloadN X1.here hx rfl (hb hby d7_7) rfl rfl ?_
    show Steps p.tables e below (T1.setTop (mkF m 8 #[.val (.ref u_NOT_EQUAL)] [(.ref u_NOT_EQUAL)])) _
    refine st2 _ ?_
    show Steps p.tables e below (T2.setTop (mkF m 11 #[.val (.ref u_NOT_EQUAL)] [(.ref u_GREATER), (.ref u_NOT_EQUAL)])) _
    refine Jvm.RoadKit.acmp (g := (mkF m 11 #[.val (.ref u_NOT_EQUAL)] [(.ref u_GREATER), (.ref u_NOT_EQUAL)])) X2 hx rfl rfl rfl (pc0 := 11) (pc' := 18) (same := false) rfl (hb hby d7_11) rfl (decide_eq_false fun q => hne_GREATER (Value.ref.inj q)) (by decide) (by decide) ?_
    show Steps p.tables e below (T2.setTop (mkF m 18 #[.val (.ref u_NOT_EQUAL)] [])) _
    refine XS.iconst X2.here hx rfl (hb hby d7_18) ?_
    exact k
  obtain ⟨fs, hr, hrun, hended, hW, hsame⟩ := X2.leave (v := some (.int (0 : Int32))) (fun h => by rw [Bd.returns] at h; cases h)
  refine ⟨_, _, k3 _ ?_, hrun, hended, _, _, rfl, ?_, ⟨_, rfl⟩, hW, hsame.mono (by decide) (by decide)⟩
  · exact retN X2 hx (t := .boolean) Bd.returns (by simp) (hb hby d7_19) hr
  · show Q7 Z u_NOT_EQUAL u_LESS u_GREATER h0 n0 _ T2.heap _
    rw [e2]
    exact ⟨rfl, N0, rfl⟩
theorem d8_0 : decode prog_4_method_10_code 0 = .ok (.aload_n 0, 1) := by decide +kernel
theorem d8_1 : decode prog_4_method_10_code 1 = .ok (.invokevirtual 48, 3) := by decide +kernel
theorem d8_4 : decode prog_4_method_10_code 4 = .ok (.tableswitch 40 0 5 #[50, 62, 74, 86, 98, 110], 40) := by decide +kernel
theorem d8_66 : decode prog_4_method_10_code 66 = .ok (.iload_n 1, 1) := by decide +kernel
theorem d8_67 : decode prog_4_method_10_code 67 = .ok (.ifCond .eq 7, 3) := by decide +kernel
theorem d8_74 : decode prog_4_method_10_code 74 = .ok (.iconst 0, 1) := by decide +kernel
theorem d8_75 : decode prog_4_method_10_code 75 = .ok (.goto 48, 3) := by decide +kernel
theorem d8_123 : decode prog_4_method_10_code 123 = .ok (.ireturn, 1) := by decide +kernel
theorem ef_8 (m : MethodId) (u_NOT_EQUAL : Addr) : entryFrame m #[(.ref u_NOT_EQUAL), (.int (0 : Int32))] 2 = mkF m 0 #[.val (.ref u_NOT_EQUAL), .val (.int (0 : Int32))] [] := by first | (simp [entryFrame, mkF, argsToLocals, Value.category]; done) | rfl
def Q8 (Z : State) (u_NOT_EQUAL : Addr) (h0 : Heap) (n0 : Nat) (v : Option Value) (h : Heap) (L : List Loc) : Prop := v = some (.int (0 : Int32)) ∧ Fr n0 L ∧ h = h0
set_option maxRecDepth 65536 in
set_option maxHeartbeats 40000000 in
theorem rm8 (l : Launch) (Z : State) (a0 : Array Value) (hw : ∀ d ∈ tables_1, d.before a0 Z = true) (ws : List Jvm.Cond) (u_NOT_EQUAL : Addr) (h0 : Heap) (n0 : Nat) (Z0 : n0 ≤ h0.size) (Ex : Exa Z h0 u_NOT_EQUAL "com/example/chop/chop/model/Relation") (Fo : Fld Z h0 u_NOT_EQUAL "java/lang/Enum" "ordinal" "I" (.int (1 : Int32))) :
    MetFree l (⟨"com/example/chop/chop/model/Relation", "holds", "(I)Z"⟩ : MethodName) (head1 (Jvm.Cond.code (⟨"com/example/chop/chop/model/Relation", "holds", "(I)Z"⟩ : MethodName) prog_4_method_10_code 2 (some .boolean) :: ws) ({ frames := 1, cells := 0, slots := 0, locals := 12 } : Room)) (fun a U => a = #[(.ref u_NOT_EQUAL), (.int (0 : Int32))] ∧ Z.Warmed39 U.vm ∧ U.heap = h0) (fun _ _ _ _ _ => True) (fun _ U o U' => ∃ v L, o = .returned v ∧ Q8 Z u_NOT_EQUAL h0 n0 v U'.heap L ∧ FrameEnd U o U' L ({ frames := 1, cells := 0, slots := 0, locals := 12 } : Room).cells ({ frames := 1, cells := 0, slots := 0, locals := 12 } : Room).slots) := by
  refine MetFree.of_bodySF (plainFor_of_name pn_1) hisR ?_
  intro p e s m args below meth c s₁ Bd hml0 hP hK
  obtain ⟨rfl, hZ, hh⟩ := hP
  have hx := Bd.exec
  have hby := Bd.bytes
  have hml : c.maxLocals = 2 := hml0
  have hown : s.vm.findClass "com/example/chop/chop/model/Relation" = some m.cls := findClass_of_methodNamed Bd.named
  have hnm := (name_of_methodNamed Bd.named Bd.method).1
  have X0 : Stand p l e ({ frames := 1, cells := 0, slots := 0, locals := 12 } : Room) s m #[(.ref u_NOT_EQUAL), (.int (0 : Int32))] below meth c s₁ [] 0 0 := Stand.of_body Bd
  have e0 : s₁.heap = h0 := by rw [← hh, Bd.state]; rfl
  have N0 := Fr.nil n0
  have pre0 : ∀ t, Steps p.tables e below (s₁.setTop (mkF m 0 #[.val (.ref u_NOT_EQUAL), .val (.int (0 : Int32))] [])) t → Steps p.tables e below (s₁.setTop (entryFrame m #[(.ref u_NOT_EQUAL), (.int (0 : Int32))] 2)) t := fun t k => castTop (ef_8 m u_NOT_EQUAL) k
  obtain ⟨cq1, kq1, q1a, q1b, q1c⟩ := isOf hZ e0 Ex
  obtain ⟨_, _, ⟨T1, L1, k1, n1⟩, -, X1, ⟨Lc1, hQ1, l1, y1, z1⟩, st1⟩ := X0.virtualBackUp hx (x := (⟨"com/example/chop/chop/model/Relation", "ordinal", "()I"⟩ : MethodName)) (y := (⟨"java/lang/Enum", "ordinal", "()I"⟩ : MethodName)) (owner := "java/lang/Enum") hown (mvT hZ (hw _ (List.mem_of_getElem? (i := 36) rfl))) (mvT hZ (hw _ (List.mem_of_getElem? (i := 37) rfl))) (mvT hZ (hw _ (List.mem_of_getElem? (i := 38) rfl))) (by decide) (mvT hZ (hw _ (List.mem_of_getElem? (i := 40) rfl))) (mvT hZ (hw _ (List.mem_of_getElem? (i := 39) rfl))) (backOf (W := 0) (rm5 l Z a0 hw [] u_NOT_EQUAL h0 n0 Z0 Fo) hZ (hw _ (List.mem_of_getElem? (i := 42) rfl)) (hw _ (List.mem_of_getElem? (i := 41) rfl)) (by decide) (by decide)) q1a q1c (g := (mkF m 1 #[.val (.ref u_NOT_EQUAL), .val (.int (0 : Int32))] [(.ref u_NOT_EQUAL)])) rfl (by rw [hml]; rfl) (Steps.refl _) (argsL := []) (rest := []) (lenOf pd_0 rfl) rfl (by show 2 * 0 + _ ≤ _; exact Nat.le_of_eq rfl) (hb hby d8_1) (fun _ _ => ⟨rfl, e0, (by decide : 0 + 0 ≤ _), (by decide : 0 + 0 ≤ _)⟩)
  dsimp only [Pt.U, Pt.locs, Pt.cells, Pt.slots] at X1 l1 y1 z1 st1 hQ1
  subst l1 y1 z1
  obtain ⟨rfl, N1q, eh1⟩ := hQ1
  have N1 := Fr.app N0 N1q
  have k2 : ∀ t, Steps p.tables e below (T1.setTop (mkF m 123 #[.val (.ref u_NOT_EQUAL), .val (.int (0 : Int32))] [(.int (0 : Int32))])) t → Steps p.tables e below (s₁.setTop (entryFrame m #[(.ref u_NOT_EQUAL), (.int (0 : Int32))] 2)) t := by
    intro t k
    refine pre0 t ?_
    show Steps p.tables e below (s₁.setTop (mkF m 0 #[.val (.ref u_NOT_EQUAL), .val (.int (0 : Int32))] [])) _
    refine XS.aloadN X0.here hx rfl (hb hby d8_0) rfl rfl ?_
    show Steps p.tables e below (s₁.setTop (mkF m 1 #[.val (.ref u_NOT_EQUAL), .val (.int (0 : Int32))] [(.ref u_NOT_EQUAL)])) _
    refine st1.trans ?_
    show Steps p.tables e below (T1.setTop (mkF m 4 #[.val (.ref u_NOT_EQUAL), .val (.int (0 : Int32))] [(.int (1 : Int32))])) _
    refine XS.tswIn X1.here hx rfl (pc0 := 4) (pc' := 66) rfl (hb hby d8_4) rfl (by decide) rfl (by decide) (by decide) ?_
    show Steps p.tables e below (T1.setTop (mkF m 66 #[.val (.ref u_NOT_EQUAL), .val (.int (0 : Int32))] [])) _
    refine XS.iloadN X1.here hx rfl (hb hby d8_66) rfl ?_
    show Steps p.tables e below (T1.setTop (mkF m 67 #[.val (.ref u_NOT_EQUAL), .val (.int (0 : Int32))] [(.int (0 : Int32))])) _
    refine XS.ifYes X1.here hx rfl (pc0 := 67) (pc' := 74) rfl (hb hby d8_67) rfl ((if0 _ _).trans (teq (by decide : (0 : Int32) = (0 : Int32))).1) (by decide) (by decide) ?_
    show Steps p.tables e below (T1.setTop (mkF m 74 #[.val (.ref u_NOT_EQUAL), .val (.int (0 : Int32))] [])) _
    refine XS.iconst X1.here hx rfl (hb hby d8_74) ?_
    show Steps p.tables e below (T1.setTop (mkF m 75 #[.val (.ref u_NOT_EQUAL), .val (.int (0 : Int32))] [(.int (0 : Int32))])) _
    refine XS.goto X1.here hx rfl (pc0 := 75) (pc' := 123) rfl (hb hby d8_75) (by decide) (by decide) ?_
    exact k
  obtain ⟨fs, hr, hrun, hended, hW, hsame⟩ := X1.leave (v := some (.int (0 : Int32))) (fun h => by rw [Bd.returns] at h; cases h)
  refine ⟨_, _, k2 _ ?_, hrun, hended, _, _, rfl, ?_, ⟨_, rfl⟩, hW, hsame.mono (by decide) (by decide)⟩
  · exact retN X1 hx (t := .boolean) Bd.returns (by simp) (hb hby d8_123) hr
  · show Q8 Z u_NOT_EQUAL h0 n0 _ T1.heap _
    rw [eh1]
    exact ⟨rfl, N1, rfl⟩
theorem d9_0 : decode jdk_37_method_2_code 0 = .ok (.aload_n 0, 1) := by decide +kernel
theorem d9_1 : decode jdk_37_method_2_code 1 = .ok (.getfield 7, 3) := by decide +kernel
theorem d9_4 : decode jdk_37_method_2_code 4 = .ok (.ireturn, 1) := by decide +kernel
theorem ef_9 (m : MethodId) (a9_0 : Addr) : entryFrame m #[(.ref a9_0)] 1 = mkF m 0 #[.val (.ref a9_0)] [] := by first | (simp [entryFrame, mkF, argsToLocals, Value.category]; done) | rfl
def Q9 (Z : State) (a9_0 : Addr) (h0 : Heap) (n0 : Nat) (v : Option Value) (h : Heap) (L : List Loc) : Prop := v = some (.int (2 : Int32)) ∧ Fr n0 L ∧ h = h0
set_option maxRecDepth 65536 in
set_option maxHeartbeats 40000000 in
theorem rm9 (l : Launch) (Z : State) (a0 : Array Value) (hw : ∀ d ∈ tables_1, d.before a0 Z = true) (ws : List Jvm.Cond) (a9_0 : Addr) (h0 : Heap) (n0 : Nat) (Z0 : n0 ≤ h0.size) (Fo : Fld Z h0 a9_0 "java/lang/Enum" "ordinal" "I" (.int (2 : Int32))) :
    MetFree l (⟨"java/lang/Enum", "ordinal", "()I"⟩ : MethodName) (head1 (Jvm.Cond.code (⟨"java/lang/Enum", "ordinal", "()I"⟩ : MethodName) jdk_37_method_2_code 1 (some .int) :: ws) ({ frames := 0, cells := 0, slots := 0, locals := 0 } : Room)) (fun a U => a = #[(.ref a9_0)] ∧ Z.Warmed39 U.vm ∧ U.heap = h0) (fun _ _ _ _ _ => True) (fun _ U o U' => ∃ v L, o = .returned v ∧ Q9 Z a9_0 h0 n0 v U'.heap L ∧ FrameEnd U o U' L ({ frames := 0, cells := 0, slots := 0, locals := 0 } : Room).cells ({ frames := 0, cells := 0, slots := 0, locals := 0 } : Room).slots) := by
  refine MetFree.of_bodySF (plainFor_of_name pn_0) hisR ?_
  intro p e s m args below meth c s₁ Bd hml0 hP hK
  obtain ⟨rfl, hZ, hh⟩ := hP
  have hx := Bd.exec
  have hby := Bd.bytes
  have hml : c.maxLocals = 1 := hml0
  have hown : s.vm.findClass "java/lang/Enum" = some m.cls := findClass_of_methodNamed Bd.named
  have hnm := (name_of_methodNamed Bd.named Bd.method).1
  have X0 : Stand p l e ({ frames := 0, cells := 0, slots := 0, locals := 0 } : Room) s m #[(.ref a9_0)] below meth c s₁ [] 0 0 := Stand.of_body Bd
  have e0 : s₁.heap = h0 := by rw [← hh, Bd.state]; rfl
  have N0 := Fr.nil n0
  have pre0 : ∀ t, Steps p.tables e below (s₁.setTop (mkF m 0 #[.val (.ref a9_0)] [])) t → Steps p.tables e below (s₁.setTop (entryFrame m #[(.ref a9_0)] 1)) t := fun t k => castTop (ef_9 m a9_0) k
  obtain ⟨T1, X1, e1, st1⟩ := getF X0 hx hZ hown (host := "") (Or.inl (hw _ (List.mem_of_getElem? (i := 43) rfl))) Via.refl e0 Fo (g := (mkF m 1 #[.val (.ref a9_0)] [(.ref a9_0)])) rfl rfl (hb hby d9_1)
  have k2 : ∀ t, Steps p.tables e below (T1.setTop (mkF m 4 #[.val (.ref a9_0)] [(.int (2 : Int32))])) t → Steps p.tables e below (s₁.setTop (entryFrame m #[(.ref a9_0)] 1)) t := by
    intro t k
    refine pre0 t ?_
    show Steps p.tables e below (s₁.setTop (mkF m 0 #[.val (.ref a9_0)] [])) _
    refine XS.aloadN X0.here hx rfl (hb hby d9_0) rfl rfl ?_
    show Steps p.tables e below (s₁.setTop (mkF m 1 #[.val (.ref a9_0)] [(.ref a9_0)])) _
    refine st1 _ ?_
    exact k
  obtain ⟨fs, hr, hrun, hended, hW, hsame⟩ := X1.leave (v := some (.int (2 : Int32))) (fun h => by rw [Bd.returns] at h; cases h)
  refine ⟨_, _, k2 _ ?_, hrun, hended, _, _, rfl, ?_, ⟨_, rfl⟩, hW, hsame.mono (by decide) (by decide)⟩
  · exact retI X1 hx Bd.returns (hb hby d9_4) hr
  · show Q9 Z a9_0 h0 n0 _ T1.heap _
    rw [e1]
    exact ⟨rfl, N0, rfl⟩
theorem d10_0 : decode prog_4_method_6_code 0 = .ok (.aload_n 0, 1) := by decide +kernel
theorem d10_1 : decode prog_4_method_6_code 1 = .ok (.getstatic 3, 3) := by decide +kernel
theorem d10_4 : decode prog_4_method_6_code 4 = .ok (.if_acmp .eq 14, 3) := by decide +kernel
theorem d10_7 : decode prog_4_method_6_code 7 = .ok (.aload_n 0, 1) := by decide +kernel
theorem d10_8 : decode prog_4_method_6_code 8 = .ok (.getstatic 7, 3) := by decide +kernel
theorem d10_11 : decode prog_4_method_6_code 11 = .ok (.if_acmp .eq 7, 3) := by decide +kernel
theorem d10_14 : decode prog_4_method_6_code 14 = .ok (.iconst 1, 1) := by decide +kernel
theorem d10_15 : decode prog_4_method_6_code 15 = .ok (.goto 4, 3) := by decide +kernel
theorem d10_19 : decode prog_4_method_6_code 19 = .ok (.ireturn, 1) := by decide +kernel
theorem ef_10 (m : MethodId) (u_LESS : Addr) : entryFrame m #[(.ref u_LESS)] 1 = mkF m 0 #[.val (.ref u_LESS)] [] := by first | (simp [entryFrame, mkF, argsToLocals, Value.category]; done) | rfl
def Q10 (Z : State) (u_LESS : Addr) (u_EQUAL : Addr) (u_NOT_EQUAL : Addr) (h0 : Heap) (n0 : Nat) (v : Option Value) (h : Heap) (L : List Loc) : Prop := v = some (.int (1 : Int32)) ∧ Fr n0 L ∧ h = h0
set_option maxRecDepth 65536 in
set_option maxHeartbeats 40000000 in
theorem rm10 (l : Launch) (Z : State) (a0 : Array Value) (hw : ∀ d ∈ tables_1, d.before a0 Z = true) (ws : List Jvm.Cond) (u_LESS : Addr) (u_EQUAL : Addr) (u_NOT_EQUAL : Addr) (h0 : Heap) (n0 : Nat) (Z0 : n0 ≤ h0.size) (S_EQUAL : Sta Z h0 "com/example/chop/chop/model/Relation" "EQUAL" "Lcom/example/chop/chop/model/Relation;" (.ref u_EQUAL)) (S_NOT_EQUAL : Sta Z h0 "com/example/chop/chop/model/Relation" "NOT_EQUAL" "Lcom/example/chop/chop/model/Relation;" (.ref u_NOT_EQUAL)) (hne_EQUAL : u_LESS ≠ u_EQUAL) (hne_NOT_EQUAL : u_LESS ≠ u_NOT_EQUAL) :
    MetFree l (⟨"com/example/chop/chop/model/Relation", "isBound", "()Z"⟩ : MethodName) (head1 (Jvm.Cond.code (⟨"com/example/chop/chop/model/Relation", "isBound", "()Z"⟩ : MethodName) prog_4_method_6_code 1 (some .boolean) :: ws) ({ frames := 0, cells := 0, slots := 0, locals := 0 } : Room)) (fun a U => a = #[(.ref u_LESS)] ∧ Z.Warmed39 U.vm ∧ U.heap = h0) (fun _ _ _ _ _ => True) (fun _ U o U' => ∃ v L, o = .returned v ∧ Q10 Z u_LESS u_EQUAL u_NOT_EQUAL h0 n0 v U'.heap L ∧ FrameEnd U o U' L ({ frames := 0, cells := 0, slots := 0, locals := 0 } : Room).cells ({ frames := 0, cells := 0, slots := 0, locals := 0 } : Room).slots) := by
  refine MetFree.of_bodySF (plainFor_of_name pn_1) hisR ?_
  intro p e s m args below meth c s₁ Bd hml0 hP hK
  obtain ⟨rfl, hZ, hh⟩ := hP
  have hx := Bd.exec
  have hby := Bd.bytes
  have hml : c.maxLocals = 1 := hml0
  have hown : s.vm.findClass "com/example/chop/chop/model/Relation" = some m.cls := findClass_of_methodNamed Bd.named
  have hnm := (name_of_methodNamed Bd.named Bd.method).1
  have X0 : Stand p l e ({ frames := 0, cells := 0, slots := 0, locals := 0 } : Room) s m #[(.ref u_LESS)] below meth c s₁ [] 0 0 := Stand.of_body Bd
  have e0 : s₁.heap = h0 := by rw [← hh, Bd.state]; rfl
  have N0 := Fr.nil n0
  have pre0 : ∀ t, Steps p.tables e below (s₁.setTop (mkF m 0 #[.val (.ref u_LESS)] [])) t → Steps p.tables e below (s₁.setTop (entryFrame m #[(.ref u_LESS)] 1)) t := fun t k => castTop (ef_10 m u_LESS) k
  obtain ⟨T1, X1, e1, st1⟩ := getS2 X0 hx hZ hown (host := "") (Or.inl (hw _ (List.mem_of_getElem? (i := 29) rfl))) Via.refl e0 S_EQUAL (g := (mkF m 1 #[.val (.ref u_LESS)] [(.ref u_LESS)])) rfl (hb hby d10_1)
  obtain ⟨T2, X2, e2, st2⟩ := getS2 X1 hx hZ hown (host := "") (Or.inl (hw _ (List.mem_of_getElem? (i := 30) rfl))) Via.refl e1 S_NOT_EQUAL (g := (mkF m 8 #[.val (.ref u_LESS)] [(.ref u_LESS)])) rfl (hb hby d10_8)
  have k3 : ∀ t, Steps p.tables e below (T2.setTop (mkF m 19 #[.val (.ref u_LESS)] [(.int (1 : Int32))])) t → Steps p.tables e below (s₁.setTop (entryFrame m #[(.ref u_LESS)] 1)) t := by
    intro t k
    refine pre0 t ?_
    show Steps p.tables e below (s₁.setTop (mkF m 0 #[.val (.ref u_LESS)] [])) _
    refine XS.aloadN X0.here hx rfl (hb hby d10_0) rfl rfl ?_
    show Steps p.tables e below (s₁.setTop (mkF m 1 #[.val (.ref u_LESS)] [(.ref u_LESS)])) _
    refine st1 _ ?_
    show Steps p.tables e below (T1.setTop (mkF m 4 #[.val (.ref u_LESS)] [(.ref u_EQUAL), (.ref u_LESS)])) _
    refine Jvm.RoadKit.acmp (g := (mkF m 4 #[.val (.ref u_LESS)] [(.ref u_EQUAL), (.ref u_LESS)])) X1 hx rfl rfl rfl (pc0 := 4) (pc' := 7) (same := false) rfl (hb hby d10_4) rfl (decide_eq_false fun q => hne_EQUAL (Value.ref.inj q)) (by decide) (by decide) ?_
    show Steps p.tables e below (T1.setTop (mkF m 7 #[.val (.ref u_LESS)] [])) _
    refine XS.aloadN X1.here hx rfl (hb hby d10_7) rfl rfl ?_
    show Steps p.tables e below (T1.setTop (mkF m 8 #[.val (.ref u_LESS)] [(.ref u_LESS)])) _
    refine st2 _ ?_
    show Steps p.tables e below (T2.setTop (mkF m 11 #[.val (.ref u_LESS)] [(.ref u_NOT_EQUAL), (.ref u_LESS)])) _
    refine Jvm.RoadKit.acmp (g := (mkF m 11 #[.val (.ref u_LESS)] [(.ref u_NOT_EQUAL), (.ref u_LESS)])) X2 hx rfl rfl rfl (pc0 := 11) (pc' := 14) (same := false) rfl (hb hby d10_11) rfl (decide_eq_false fun q => hne_NOT_EQUAL (Value.ref.inj q)) (by decide) (by decide) ?_
    show Steps p.tables e below (T2.setTop (mkF m 14 #[.val (.ref u_LESS)] [])) _
    refine XS.iconst X2.here hx rfl (hb hby d10_14) ?_
    show Steps p.tables e below (T2.setTop (mkF m 15 #[.val (.ref u_LESS)] [(.int (1 : Int32))])) _
    refine XS.goto X2.here hx rfl (pc0 := 15) (pc' := 19) rfl (hb hby d10_15) (by decide) (by decide) ?_
    exact k
  obtain ⟨fs, hr, hrun, hended, hW, hsame⟩ := X2.leave (v := some (.int (1 : Int32))) (fun h => by rw [Bd.returns] at h; cases h)
  refine ⟨_, _, k3 _ ?_, hrun, hended, _, _, rfl, ?_, ⟨_, rfl⟩, hW, hsame.mono (by decide) (by decide)⟩
  · exact retN X2 hx (t := .boolean) Bd.returns (by simp) (hb hby d10_19) hr
  · show Q10 Z u_LESS u_EQUAL u_NOT_EQUAL h0 n0 _ T2.heap _
    rw [e2]
    exact ⟨rfl, N0, rfl⟩
theorem d11_0 : decode prog_4_method_8_code 0 = .ok (.aload_n 0, 1) := by decide +kernel
theorem d11_1 : decode prog_4_method_8_code 1 = .ok (.getstatic 10, 3) := by decide +kernel
theorem d11_4 : decode prog_4_method_8_code 4 = .ok (.if_acmp .eq 10, 3) := by decide +kernel
theorem d11_14 : decode prog_4_method_8_code 14 = .ok (.iconst 1, 1) := by decide +kernel
theorem d11_15 : decode prog_4_method_8_code 15 = .ok (.goto 4, 3) := by decide +kernel
theorem d11_19 : decode prog_4_method_8_code 19 = .ok (.ireturn, 1) := by decide +kernel
theorem ef_11 (m : MethodId) (u_LESS : Addr) : entryFrame m #[(.ref u_LESS)] 1 = mkF m 0 #[.val (.ref u_LESS)] [] := by first | (simp [entryFrame, mkF, argsToLocals, Value.category]; done) | rfl
def Q11 (Z : State) (u_LESS : Addr) (h0 : Heap) (n0 : Nat) (v : Option Value) (h : Heap) (L : List Loc) : Prop := v = some (.int (1 : Int32)) ∧ Fr n0 L ∧ h = h0
set_option maxRecDepth 65536 in
set_option maxHeartbeats 40000000 in
theorem rm11 (l : Launch) (Z : State) (a0 : Array Value) (hw : ∀ d ∈ tables_1, d.before a0 Z = true) (ws : List Jvm.Cond) (u_LESS : Addr) (h0 : Heap) (n0 : Nat) (Z0 : n0 ≤ h0.size) (S_LESS : Sta Z h0 "com/example/chop/chop/model/Relation" "LESS" "Lcom/example/chop/chop/model/Relation;" (.ref u_LESS)) :
    MetFree l (⟨"com/example/chop/chop/model/Relation", "isStrict", "()Z"⟩ : MethodName) (head1 (Jvm.Cond.code (⟨"com/example/chop/chop/model/Relation", "isStrict", "()Z"⟩ : MethodName) prog_4_method_8_code 1 (some .boolean) :: ws) ({ frames := 0, cells := 0, slots := 0, locals := 0 } : Room)) (fun a U => a = #[(.ref u_LESS)] ∧ Z.Warmed39 U.vm ∧ U.heap = h0) (fun _ _ _ _ _ => True) (fun _ U o U' => ∃ v L, o = .returned v ∧ Q11 Z u_LESS h0 n0 v U'.heap L ∧ FrameEnd U o U' L ({ frames := 0, cells := 0, slots := 0, locals := 0 } : Room).cells ({ frames := 0, cells := 0, slots := 0, locals := 0 } : Room).slots) := by
  refine MetFree.of_bodySF (plainFor_of_name pn_1) hisR ?_
  intro p e s m args below meth c s₁ Bd hml0 hP hK
  obtain ⟨rfl, hZ, hh⟩ := hP
  have hx := Bd.exec
  have hby := Bd.bytes
  have hml : c.maxLocals = 1 := hml0
  have hown : s.vm.findClass "com/example/chop/chop/model/Relation" = some m.cls := findClass_of_methodNamed Bd.named
  have hnm := (name_of_methodNamed Bd.named Bd.method).1
  have X0 : Stand p l e ({ frames := 0, cells := 0, slots := 0, locals := 0 } : Room) s m #[(.ref u_LESS)] below meth c s₁ [] 0 0 := Stand.of_body Bd
  have e0 : s₁.heap = h0 := by rw [← hh, Bd.state]; rfl
  have N0 := Fr.nil n0
  have pre0 : ∀ t, Steps p.tables e below (s₁.setTop (mkF m 0 #[.val (.ref u_LESS)] [])) t → Steps p.tables e below (s₁.setTop (entryFrame m #[(.ref u_LESS)] 1)) t := fun t k => castTop (ef_11 m u_LESS) k
  obtain ⟨T1, X1, e1, st1⟩ := getS2 X0 hx hZ hown (host := "") (Or.inl (hw _ (List.mem_of_getElem? (i := 22) rfl))) Via.refl e0 S_LESS (g := (mkF m 1 #[.val (.ref u_LESS)] [(.ref u_LESS)])) rfl (hb hby d11_1)
  have k2 : ∀ t, Steps p.tables e below (T1.setTop (mkF m 19 #[.val (.ref u_LESS)] [(.int (1 : Int32))])) t → Steps p.tables e below (s₁.setTop (entryFrame m #[(.ref u_LESS)] 1)) t := by
    intro t k
    refine pre0 t ?_
    show Steps p.tables e below (s₁.setTop (mkF m 0 #[.val (.ref u_LESS)] [])) _
    refine XS.aloadN X0.here hx rfl (hb hby d11_0) rfl rfl ?_
    show Steps p.tables e below (s₁.setTop (mkF m 1 #[.val (.ref u_LESS)] [(.ref u_LESS)])) _
    refine st1 _ ?_
    show Steps p.tables e below (T1.setTop (mkF m 4 #[.val (.ref u_LESS)] [(.ref u_LESS), (.ref u_LESS)])) _
    refine Jvm.RoadKit.acmp (g := (mkF m 4 #[.val (.ref u_LESS)] [(.ref u_LESS), (.ref u_LESS)])) X1 hx rfl rfl rfl (pc0 := 4) (pc' := 14) (same := true) rfl (hb hby d11_4) rfl (decide_eq_true rfl) (by decide) (by decide) ?_
    show Steps p.tables e below (T1.setTop (mkF m 14 #[.val (.ref u_LESS)] [])) _
    refine XS.iconst X1.here hx rfl (hb hby d11_14) ?_
    show Steps p.tables e below (T1.setTop (mkF m 15 #[.val (.ref u_LESS)] [(.int (1 : Int32))])) _
    refine XS.goto X1.here hx rfl (pc0 := 15) (pc' := 19) rfl (hb hby d11_15) (by decide) (by decide) ?_
    exact k
  obtain ⟨fs, hr, hrun, hended, hW, hsame⟩ := X1.leave (v := some (.int (1 : Int32))) (fun h => by rw [Bd.returns] at h; cases h)
  refine ⟨_, _, k2 _ ?_, hrun, hended, _, _, rfl, ?_, ⟨_, rfl⟩, hW, hsame.mono (by decide) (by decide)⟩
  · exact retN X1 hx (t := .boolean) Bd.returns (by simp) (hb hby d11_19) hr
  · show Q11 Z u_LESS h0 n0 _ T1.heap _
    rw [e1]
    exact ⟨rfl, N0, rfl⟩
theorem d12_0 : decode prog_4_method_10_code 0 = .ok (.aload_n 0, 1) := by decide +kernel
theorem d12_1 : decode prog_4_method_10_code 1 = .ok (.invokevirtual 48, 3) := by decide +kernel
theorem d12_4 : decode prog_4_method_10_code 4 = .ok (.tableswitch 40 0 5 #[50, 62, 74, 86, 98, 110], 40) := by decide +kernel
theorem d12_78 : decode prog_4_method_10_code 78 = .ok (.iload_n 1, 1) := by decide +kernel
theorem d12_79 : decode prog_4_method_10_code 79 = .ok (.ifCond .ge 7, 3) := by decide +kernel
theorem d12_86 : decode prog_4_method_10_code 86 = .ok (.iconst 0, 1) := by decide +kernel
theorem d12_87 : decode prog_4_method_10_code 87 = .ok (.goto 36, 3) := by decide +kernel
theorem d12_123 : decode prog_4_method_10_code 123 = .ok (.ireturn, 1) := by decide +kernel
theorem ef_12 (m : MethodId) (u_LESS : Addr) : entryFrame m #[(.ref u_LESS), (.int (0 : Int32))] 2 = mkF m 0 #[.val (.ref u_LESS), .val (.int (0 : Int32))] [] := by first | (simp [entryFrame, mkF, argsToLocals, Value.category]; done) | rfl
def Q12 (Z : State) (u_LESS : Addr) (h0 : Heap) (n0 : Nat) (v : Option Value) (h : Heap) (L : List Loc) : Prop := v = some (.int (0 : Int32)) ∧ Fr n0 L ∧ h = h0
set_option maxRecDepth 65536 in
set_option maxHeartbeats 40000000 in
theorem rm12 (l : Launch) (Z : State) (a0 : Array Value) (hw : ∀ d ∈ tables_1, d.before a0 Z = true) (ws : List Jvm.Cond) (u_LESS : Addr) (h0 : Heap) (n0 : Nat) (Z0 : n0 ≤ h0.size) (Ex : Exa Z h0 u_LESS "com/example/chop/chop/model/Relation") (Fo : Fld Z h0 u_LESS "java/lang/Enum" "ordinal" "I" (.int (2 : Int32))) :
    MetFree l (⟨"com/example/chop/chop/model/Relation", "holds", "(I)Z"⟩ : MethodName) (head1 (Jvm.Cond.code (⟨"com/example/chop/chop/model/Relation", "holds", "(I)Z"⟩ : MethodName) prog_4_method_10_code 2 (some .boolean) :: ws) ({ frames := 1, cells := 0, slots := 0, locals := 12 } : Room)) (fun a U => a = #[(.ref u_LESS), (.int (0 : Int32))] ∧ Z.Warmed39 U.vm ∧ U.heap = h0) (fun _ _ _ _ _ => True) (fun _ U o U' => ∃ v L, o = .returned v ∧ Q12 Z u_LESS h0 n0 v U'.heap L ∧ FrameEnd U o U' L ({ frames := 1, cells := 0, slots := 0, locals := 12 } : Room).cells ({ frames := 1, cells := 0, slots := 0, locals := 12 } : Room).slots) := by
  refine MetFree.of_bodySF (plainFor_of_name pn_1) hisR ?_
  intro p e s m args below meth c s₁ Bd hml0 hP hK
  obtain ⟨rfl, hZ, hh⟩ := hP
  have hx := Bd.exec
  have hby := Bd.bytes
  have hml : c.maxLocals = 2 := hml0
  have hown : s.vm.findClass "com/example/chop/chop/model/Relation" = some m.cls := findClass_of_methodNamed Bd.named
  have hnm := (name_of_methodNamed Bd.named Bd.method).1
  have X0 : Stand p l e ({ frames := 1, cells := 0, slots := 0, locals := 12 } : Room) s m #[(.ref u_LESS), (.int (0 : Int32))] below meth c s₁ [] 0 0 := Stand.of_body Bd
  have e0 : s₁.heap = h0 := by rw [← hh, Bd.state]; rfl
  have N0 := Fr.nil n0
  have pre0 : ∀ t, Steps p.tables e below (s₁.setTop (mkF m 0 #[.val (.ref u_LESS), .val (.int (0 : Int32))] [])) t → Steps p.tables e below (s₁.setTop (entryFrame m #[(.ref u_LESS), (.int (0 : Int32))] 2)) t := fun t k => castTop (ef_12 m u_LESS) k
  obtain ⟨cq1, kq1, q1a, q1b, q1c⟩ := isOf hZ e0 Ex
  obtain ⟨_, _, ⟨T1, L1, k1, n1⟩, -, X1, ⟨Lc1, hQ1, l1, y1, z1⟩, st1⟩ := X0.virtualBackUp hx (x := (⟨"com/example/chop/chop/model/Relation", "ordinal", "()I"⟩ : MethodName)) (y := (⟨"java/lang/Enum", "ordinal", "()I"⟩ : MethodName)) (owner := "java/lang/Enum") hown (mvT hZ (hw _ (List.mem_of_getElem? (i := 36) rfl))) (mvT hZ (hw _ (List.mem_of_getElem? (i := 37) rfl))) (mvT hZ (hw _ (List.mem_of_getElem? (i := 38) rfl))) (by decide) (mvT hZ (hw _ (List.mem_of_getElem? (i := 40) rfl))) (mvT hZ (hw _ (List.mem_of_getElem? (i := 39) rfl))) (backOf (W := 0) (rm9 l Z a0 hw [] u_LESS h0 n0 Z0 Fo) hZ (hw _ (List.mem_of_getElem? (i := 42) rfl)) (hw _ (List.mem_of_getElem? (i := 41) rfl)) (by decide) (by decide)) q1a q1c (g := (mkF m 1 #[.val (.ref u_LESS), .val (.int (0 : Int32))] [(.ref u_LESS)])) rfl (by rw [hml]; rfl) (Steps.refl _) (argsL := []) (rest := []) (lenOf pd_0 rfl) rfl (by show 2 * 0 + _ ≤ _; exact Nat.le_of_eq rfl) (hb hby d12_1) (fun _ _ => ⟨rfl, e0, (by decide : 0 + 0 ≤ _), (by decide : 0 + 0 ≤ _)⟩)
  dsimp only [Pt.U, Pt.locs, Pt.cells, Pt.slots] at X1 l1 y1 z1 st1 hQ1
  subst l1 y1 z1
  obtain ⟨rfl, N1q, eh1⟩ := hQ1
  have N1 := Fr.app N0 N1q
  have k2 : ∀ t, Steps p.tables e below (T1.setTop (mkF m 123 #[.val (.ref u_LESS), .val (.int (0 : Int32))] [(.int (0 : Int32))])) t → Steps p.tables e below (s₁.setTop (entryFrame m #[(.ref u_LESS), (.int (0 : Int32))] 2)) t := by
    intro t k
    refine pre0 t ?_
    show Steps p.tables e below (s₁.setTop (mkF m 0 #[.val (.ref u_LESS), .val (.int (0 : Int32))] [])) _
    refine XS.aloadN X0.here hx rfl (hb hby d12_0) rfl rfl ?_
    show Steps p.tables e below (s₁.setTop (mkF m 1 #[.val (.ref u_LESS), .val (.int (0 : Int32))] [(.ref u_LESS)])) _
    refine st1.trans ?_
    show Steps p.tables e below (T1.setTop (mkF m 4 #[.val (.ref u_LESS), .val (.int (0 : Int32))] [(.int (2 : Int32))])) _
    refine XS.tswIn X1.here hx rfl (pc0 := 4) (pc' := 78) rfl (hb hby d12_4) rfl (by decide) rfl (by decide) (by decide) ?_
    show Steps p.tables e below (T1.setTop (mkF m 78 #[.val (.ref u_LESS), .val (.int (0 : Int32))] [])) _
    refine XS.iloadN X1.here hx rfl (hb hby d12_78) rfl ?_
    show Steps p.tables e below (T1.setTop (mkF m 79 #[.val (.ref u_LESS), .val (.int (0 : Int32))] [(.int (0 : Int32))])) _
    refine XS.ifYes X1.here hx rfl (pc0 := 79) (pc' := 86) rfl (hb hby d12_79) rfl ((if0 _ _).trans (flt (by decide : ¬ ((0 : Int32) < (0 : Int32)))).2.1) (by decide) (by decide) ?_
    show Steps p.tables e below (T1.setTop (mkF m 86 #[.val (.ref u_LESS), .val (.int (0 : Int32))] [])) _
    refine XS.iconst X1.here hx rfl (hb hby d12_86) ?_
    show Steps p.tables e below (T1.setTop (mkF m 87 #[.val (.ref u_LESS), .val (.int (0 : Int32))] [(.int (0 : Int32))])) _
    refine XS.goto X1.here hx rfl (pc0 := 87) (pc' := 123) rfl (hb hby d12_87) (by decide) (by decide) ?_
    exact k
  obtain ⟨fs, hr, hrun, hended, hW, hsame⟩ := X1.leave (v := some (.int (0 : Int32))) (fun h => by rw [Bd.returns] at h; cases h)
  refine ⟨_, _, k2 _ ?_, hrun, hended, _, _, rfl, ?_, ⟨_, rfl⟩, hW, hsame.mono (by decide) (by decide)⟩
  · exact retN X1 hx (t := .boolean) Bd.returns (by simp) (hb hby d12_123) hr
  · show Q12 Z u_LESS h0 n0 _ T1.heap _
    rw [eh1]
    exact ⟨rfl, N1, rfl⟩
theorem d13_0 : decode jdk_37_method_2_code 0 = .ok (.aload_n 0, 1) := by decide +kernel
theorem d13_1 : decode jdk_37_method_2_code 1 = .ok (.getfield 7, 3) := by decide +kernel
theorem d13_4 : decode jdk_37_method_2_code 4 = .ok (.ireturn, 1) := by decide +kernel
theorem ef_13 (m : MethodId) (a13_0 : Addr) : entryFrame m #[(.ref a13_0)] 1 = mkF m 0 #[.val (.ref a13_0)] [] := by first | (simp [entryFrame, mkF, argsToLocals, Value.category]; done) | rfl
def Q13 (Z : State) (a13_0 : Addr) (h0 : Heap) (n0 : Nat) (v : Option Value) (h : Heap) (L : List Loc) : Prop := v = some (.int (3 : Int32)) ∧ Fr n0 L ∧ h = h0
set_option maxRecDepth 65536 in
set_option maxHeartbeats 40000000 in
theorem rm13 (l : Launch) (Z : State) (a0 : Array Value) (hw : ∀ d ∈ tables_1, d.before a0 Z = true) (ws : List Jvm.Cond) (a13_0 : Addr) (h0 : Heap) (n0 : Nat) (Z0 : n0 ≤ h0.size) (Fo : Fld Z h0 a13_0 "java/lang/Enum" "ordinal" "I" (.int (3 : Int32))) :
    MetFree l (⟨"java/lang/Enum", "ordinal", "()I"⟩ : MethodName) (head1 (Jvm.Cond.code (⟨"java/lang/Enum", "ordinal", "()I"⟩ : MethodName) jdk_37_method_2_code 1 (some .int) :: ws) ({ frames := 0, cells := 0, slots := 0, locals := 0 } : Room)) (fun a U => a = #[(.ref a13_0)] ∧ Z.Warmed39 U.vm ∧ U.heap = h0) (fun _ _ _ _ _ => True) (fun _ U o U' => ∃ v L, o = .returned v ∧ Q13 Z a13_0 h0 n0 v U'.heap L ∧ FrameEnd U o U' L ({ frames := 0, cells := 0, slots := 0, locals := 0 } : Room).cells ({ frames := 0, cells := 0, slots := 0, locals := 0 } : Room).slots) := by
  refine MetFree.of_bodySF (plainFor_of_name pn_0) hisR ?_
  intro p e s m args below meth c s₁ Bd hml0 hP hK
  obtain ⟨rfl, hZ, hh⟩ := hP
  have hx := Bd.exec
  have hby := Bd.bytes
  have hml : c.maxLocals = 1 := hml0
  have hown : s.vm.findClass "java/lang/Enum" = some m.cls := findClass_of_methodNamed Bd.named
  have hnm := (name_of_methodNamed Bd.named Bd.method).1
  have X0 : Stand p l e ({ frames := 0, cells := 0, slots := 0, locals := 0 } : Room) s m #[(.ref a13_0)] below meth c s₁ [] 0 0 := Stand.of_body Bd
  have e0 : s₁.heap = h0 := by rw [← hh, Bd.state]; rfl
  have N0 := Fr.nil n0
  have pre0 : ∀ t, Steps p.tables e below (s₁.setTop (mkF m 0 #[.val (.ref a13_0)] [])) t → Steps p.tables e below (s₁.setTop (entryFrame m #[(.ref a13_0)] 1)) t := fun t k => castTop (ef_13 m a13_0) k
  obtain ⟨T1, X1, e1, st1⟩ := getF X0 hx hZ hown (host := "") (Or.inl (hw _ (List.mem_of_getElem? (i := 43) rfl))) Via.refl e0 Fo (g := (mkF m 1 #[.val (.ref a13_0)] [(.ref a13_0)])) rfl rfl (hb hby d13_1)
  have k2 : ∀ t, Steps p.tables e below (T1.setTop (mkF m 4 #[.val (.ref a13_0)] [(.int (3 : Int32))])) t → Steps p.tables e below (s₁.setTop (entryFrame m #[(.ref a13_0)] 1)) t := by
    intro t k
    refine pre0 t ?_
    show Steps p.tables e below (s₁.setTop (mkF m 0 #[.val (.ref a13_0)] [])) _
    refine XS.aloadN X0.here hx rfl (hb hby d13_0) rfl rfl ?_
    show Steps p.tables e below (s₁.setTop (mkF m 1 #[.val (.ref a13_0)] [(.ref a13_0)])) _
    refine st1 _ ?_
    exact k
  obtain ⟨fs, hr, hrun, hended, hW, hsame⟩ := X1.leave (v := some (.int (3 : Int32))) (fun h => by rw [Bd.returns] at h; cases h)
  refine ⟨_, _, k2 _ ?_, hrun, hended, _, _, rfl, ?_, ⟨_, rfl⟩, hW, hsame.mono (by decide) (by decide)⟩
  · exact retI X1 hx Bd.returns (hb hby d13_4) hr
  · show Q13 Z a13_0 h0 n0 _ T1.heap _
    rw [e1]
    exact ⟨rfl, N0, rfl⟩
theorem d14_0 : decode prog_4_method_6_code 0 = .ok (.aload_n 0, 1) := by decide +kernel
theorem d14_1 : decode prog_4_method_6_code 1 = .ok (.getstatic 3, 3) := by decide +kernel
theorem d14_4 : decode prog_4_method_6_code 4 = .ok (.if_acmp .eq 14, 3) := by decide +kernel
theorem d14_7 : decode prog_4_method_6_code 7 = .ok (.aload_n 0, 1) := by decide +kernel
theorem d14_8 : decode prog_4_method_6_code 8 = .ok (.getstatic 7, 3) := by decide +kernel
theorem d14_11 : decode prog_4_method_6_code 11 = .ok (.if_acmp .eq 7, 3) := by decide +kernel
theorem d14_14 : decode prog_4_method_6_code 14 = .ok (.iconst 1, 1) := by decide +kernel
theorem d14_15 : decode prog_4_method_6_code 15 = .ok (.goto 4, 3) := by decide +kernel
theorem d14_19 : decode prog_4_method_6_code 19 = .ok (.ireturn, 1) := by decide +kernel
theorem ef_14 (m : MethodId) (u_LESS_EQUAL : Addr) : entryFrame m #[(.ref u_LESS_EQUAL)] 1 = mkF m 0 #[.val (.ref u_LESS_EQUAL)] [] := by first | (simp [entryFrame, mkF, argsToLocals, Value.category]; done) | rfl
def Q14 (Z : State) (u_LESS_EQUAL : Addr) (u_EQUAL : Addr) (u_NOT_EQUAL : Addr) (h0 : Heap) (n0 : Nat) (v : Option Value) (h : Heap) (L : List Loc) : Prop := v = some (.int (1 : Int32)) ∧ Fr n0 L ∧ h = h0
set_option maxRecDepth 65536 in
set_option maxHeartbeats 40000000 in
theorem rm14 (l : Launch) (Z : State) (a0 : Array Value) (hw : ∀ d ∈ tables_1, d.before a0 Z = true) (ws : List Jvm.Cond) (u_LESS_EQUAL : Addr) (u_EQUAL : Addr) (u_NOT_EQUAL : Addr) (h0 : Heap) (n0 : Nat) (Z0 : n0 ≤ h0.size) (S_EQUAL : Sta Z h0 "com/example/chop/chop/model/Relation" "EQUAL" "Lcom/example/chop/chop/model/Relation;" (.ref u_EQUAL)) (S_NOT_EQUAL : Sta Z h0 "com/example/chop/chop/model/Relation" "NOT_EQUAL" "Lcom/example/chop/chop/model/Relation;" (.ref u_NOT_EQUAL)) (hne_EQUAL : u_LESS_EQUAL ≠ u_EQUAL) (hne_NOT_EQUAL : u_LESS_EQUAL ≠ u_NOT_EQUAL) :
    MetFree l (⟨"com/example/chop/chop/model/Relation", "isBound", "()Z"⟩ : MethodName) (head1 (Jvm.Cond.code (⟨"com/example/chop/chop/model/Relation", "isBound", "()Z"⟩ : MethodName) prog_4_method_6_code 1 (some .boolean) :: ws) ({ frames := 0, cells := 0, slots := 0, locals := 0 } : Room)) (fun a U => a = #[(.ref u_LESS_EQUAL)] ∧ Z.Warmed39 U.vm ∧ U.heap = h0) (fun _ _ _ _ _ => True) (fun _ U o U' => ∃ v L, o = .returned v ∧ Q14 Z u_LESS_EQUAL u_EQUAL u_NOT_EQUAL h0 n0 v U'.heap L ∧ FrameEnd U o U' L ({ frames := 0, cells := 0, slots := 0, locals := 0 } : Room).cells ({ frames := 0, cells := 0, slots := 0, locals := 0 } : Room).slots) := by
  refine MetFree.of_bodySF (plainFor_of_name pn_1) hisR ?_
  intro p e s m args below meth c s₁ Bd hml0 hP hK
  obtain ⟨rfl, hZ, hh⟩ := hP
  have hx := Bd.exec
  have hby := Bd.bytes
  have hml : c.maxLocals = 1 := hml0
  have hown : s.vm.findClass "com/example/chop/chop/model/Relation" = some m.cls := findClass_of_methodNamed Bd.named
  have hnm := (name_of_methodNamed Bd.named Bd.method).1
  have X0 : Stand p l e ({ frames := 0, cells := 0, slots := 0, locals := 0 } : Room) s m #[(.ref u_LESS_EQUAL)] below meth c s₁ [] 0 0 := Stand.of_body Bd
  have e0 : s₁.heap = h0 := by rw [← hh, Bd.state]; rfl
  have N0 := Fr.nil n0
  have pre0 : ∀ t, Steps p.tables e below (s₁.setTop (mkF m 0 #[.val (.ref u_LESS_EQUAL)] [])) t → Steps p.tables e below (s₁.setTop (entryFrame m #[(.ref u_LESS_EQUAL)] 1)) t := fun t k => castTop (ef_14 m u_LESS_EQUAL) k
  obtain ⟨T1, X1, e1, st1⟩ := getS2 X0 hx hZ hown (host := "") (Or.inl (hw _ (List.mem_of_getElem? (i := 29) rfl))) Via.refl e0 S_EQUAL (g := (mkF m 1 #[.val (.ref u_LESS_EQUAL)] [(.ref u_LESS_EQUAL)])) rfl (hb hby d14_1)
  obtain ⟨T2, X2, e2, st2⟩ := getS2 X1 hx hZ hown (host := "") (Or.inl (hw _ (List.mem_of_getElem? (i := 30) rfl))) Via.refl e1 S_NOT_EQUAL (g := (mkF m 8 #[.val (.ref u_LESS_EQUAL)] [(.ref u_LESS_EQUAL)])) rfl (hb hby d14_8)
  have k3 : ∀ t, Steps p.tables e below (T2.setTop (mkF m 19 #[.val (.ref u_LESS_EQUAL)] [(.int (1 : Int32))])) t → Steps p.tables e below (s₁.setTop (entryFrame m #[(.ref u_LESS_EQUAL)] 1)) t := by
    intro t k
    refine pre0 t ?_
    show Steps p.tables e below (s₁.setTop (mkF m 0 #[.val (.ref u_LESS_EQUAL)] [])) _
    refine XS.aloadN X0.here hx rfl (hb hby d14_0) rfl rfl ?_
    show Steps p.tables e below (s₁.setTop (mkF m 1 #[.val (.ref u_LESS_EQUAL)] [(.ref u_LESS_EQUAL)])) _
    refine st1 _ ?_
    show Steps p.tables e below (T1.setTop (mkF m 4 #[.val (.ref u_LESS_EQUAL)] [(.ref u_EQUAL), (.ref u_LESS_EQUAL)])) _
    refine Jvm.RoadKit.acmp (g := (mkF m 4 #[.val (.ref u_LESS_EQUAL)] [(.ref u_EQUAL), (.ref u_LESS_EQUAL)])) X1 hx rfl rfl rfl (pc0 := 4) (pc' := 7) (same := false) rfl (hb hby d14_4) rfl (decide_eq_false fun q => hne_EQUAL (Value.ref.inj q)) (by decide) (by decide) ?_
    show Steps p.tables e below (T1.setTop (mkF m 7 #[.val (.ref u_LESS_EQUAL)] [])) _
    refine XS.aloadN X1.here hx rfl (hb hby d14_7) rfl rfl ?_
    show Steps p.tables e below (T1.setTop (mkF m 8 #[.val (.ref u_LESS_EQUAL)] [(.ref u_LESS_EQUAL)])) _
    refine st2 _ ?_
    show Steps p.tables e below (T2.setTop (mkF m 11 #[.val (.ref u_LESS_EQUAL)] [(.ref u_NOT_EQUAL), (.ref u_LESS_EQUAL)])) _
    refine Jvm.RoadKit.acmp (g := (mkF m 11 #[.val (.ref u_LESS_EQUAL)] [(.ref u_NOT_EQUAL), (.ref u_LESS_EQUAL)])) X2 hx rfl rfl rfl (pc0 := 11) (pc' := 14) (same := false) rfl (hb hby d14_11) rfl (decide_eq_false fun q => hne_NOT_EQUAL (Value.ref.inj q)) (by decide) (by decide) ?_
    show Steps p.tables e below (T2.setTop (mkF m 14 #[.val (.ref u_LESS_EQUAL)] [])) _
    refine XS.iconst X2.here hx rfl (hb hby d14_14) ?_
    show Steps p.tables e below (T2.setTop (mkF m 15 #[.val (.ref u_LESS_EQUAL)] [(.int (1 : Int32))])) _
    refine XS.goto X2.here hx rfl (pc0 := 15) (pc' := 19) rfl (hb hby d14_15) (by decide) (by decide) ?_
    exact k
  obtain ⟨fs, hr, hrun, hended, hW, hsame⟩ := X2.leave (v := some (.int (1 : Int32))) (fun h => by rw [Bd.returns] at h; cases h)
  refine ⟨_, _, k3 _ ?_, hrun, hended, _, _, rfl, ?_, ⟨_, rfl⟩, hW, hsame.mono (by decide) (by decide)⟩
  · exact retN X2 hx (t := .boolean) Bd.returns (by simp) (hb hby d14_19) hr
  · show Q14 Z u_LESS_EQUAL u_EQUAL u_NOT_EQUAL h0 n0 _ T2.heap _
    rw [e2]
    exact ⟨rfl, N0, rfl⟩
theorem d15_0 : decode prog_4_method_8_code 0 = .ok (.aload_n 0, 1) := by decide +kernel
theorem d15_1 : decode prog_4_method_8_code 1 = .ok (.getstatic 10, 3) := by decide +kernel
theorem d15_4 : decode prog_4_method_8_code 4 = .ok (.if_acmp .eq 10, 3) := by decide +kernel
theorem d15_7 : decode prog_4_method_8_code 7 = .ok (.aload_n 0, 1) := by decide +kernel
theorem d15_8 : decode prog_4_method_8_code 8 = .ok (.getstatic 16, 3) := by decide +kernel
theorem d15_11 : decode prog_4_method_8_code 11 = .ok (.if_acmp .ne 7, 3) := by decide +kernel
theorem d15_18 : decode prog_4_method_8_code 18 = .ok (.iconst 0, 1) := by decide +kernel
theorem d15_19 : decode prog_4_method_8_code 19 = .ok (.ireturn, 1) := by decide +kernel
theorem ef_15 (m : MethodId) (u_LESS_EQUAL : Addr) : entryFrame m #[(.ref u_LESS_EQUAL)] 1 = mkF m 0 #[.val (.ref u_LESS_EQUAL)] [] := by first | (simp [entryFrame, mkF, argsToLocals, Value.category]; done) | rfl
def Q15 (Z : State) (u_LESS_EQUAL : Addr) (u_LESS : Addr) (u_GREATER : Addr) (h0 : Heap) (n0 : Nat) (v : Option Value) (h : Heap) (L : List Loc) : Prop := v = some (.int (0 : Int32)) ∧ Fr n0 L ∧ h = h0
set_option maxRecDepth 65536 in
set_option maxHeartbeats 40000000 in
theorem rm15 (l : Launch) (Z : State) (a0 : Array Value) (hw : ∀ d ∈ tables_1, d.before a0 Z = true) (ws : List Jvm.Cond) (u_LESS_EQUAL : Addr) (u_LESS : Addr) (u_GREATER : Addr) (h0 : Heap) (n0 : Nat) (Z0 : n0 ≤ h0.size) (S_LESS : Sta Z h0 "com/example/chop/chop/model/Relation" "LESS" "Lcom/example/chop/chop/model/Relation;" (.ref u_LESS)) (S_GREATER : Sta Z h0 "com/example/chop/chop/model/Relation" "GREATER" "Lcom/example/chop/chop/model/Relation;" (.ref u_GREATER)) (hne_LESS : u_LESS_EQUAL ≠ u_LESS) (hne_GREATER : u_LESS_EQUAL ≠ u_GREATER) :
    MetFree l (⟨"com/example/chop/chop/model/Relation", "isStrict", "()Z"⟩ : MethodName) (head1 (Jvm.Cond.code (⟨"com/example/chop/chop/model/Relation", "isStrict", "()Z"⟩ : MethodName) prog_4_method_8_code 1 (some .boolean) :: ws) ({ frames := 0, cells := 0, slots := 0, locals := 0 } : Room)) (fun a U => a = #[(.ref u_LESS_EQUAL)] ∧ Z.Warmed39 U.vm ∧ U.heap = h0) (fun _ _ _ _ _ => True) (fun _ U o U' => ∃ v L, o = .returned v ∧ Q15 Z u_LESS_EQUAL u_LESS u_GREATER h0 n0 v U'.heap L ∧ FrameEnd U o U' L ({ frames := 0, cells := 0, slots := 0, locals := 0 } : Room).cells ({ frames := 0, cells := 0, slots := 0, locals := 0 } : Room).slots) := by
  refine MetFree.of_bodySF (plainFor_of_name pn_1) hisR ?_
  intro p e s m args below meth c s₁ Bd hml0 hP hK
  obtain ⟨rfl, hZ, hh⟩ := hP
  have hx := Bd.exec
  have hby := Bd.bytes
  have hml : c.maxLocals = 1 := hml0
  have hown : s.vm.findClass "com/example/chop/chop/model/Relation" = some m.cls := findClass_of_methodNamed Bd.named
  have hnm := (name_of_methodNamed Bd.named Bd.method).1
  have X0 : Stand p l e ({ frames := 0, cells := 0, slots := 0, locals := 0 } : Room) s m #[(.ref u_LESS_EQUAL)] below meth c s₁ [] 0 0 := Stand.of_body Bd
  have e0 : s₁.heap = h0 := by rw [← hh, Bd.state]; rfl
  have N0 := Fr.nil n0
  have pre0 : ∀ t, Steps p.tables e below (s₁.setTop (mkF m 0 #[.val (.ref u_LESS_EQUAL)] [])) t → Steps p.tables e below (s₁.setTop (entryFrame m #[(.ref u_LESS_EQUAL)] 1)) t := fun t k => castTop (ef_15 m u_LESS_EQUAL) k
  obtain ⟨T1, X1, e1, st1⟩ := getS2 X0 hx hZ hown (host := "") (Or.inl (hw _ (List.mem_of_getElem? (i := 22) rfl))) Via.refl e0 S_LESS (g := (mkF m 1 #[.val (.ref u_LESS_EQUAL)] [(.ref u_LESS_EQUAL)])) rfl (hb hby d15_1)
  obtain ⟨T2, X2, e2, st2⟩ := getS2 X1 hx hZ hown (host := "") (Or.inl (hw _ (List.mem_of_getElem? (i := 23) rfl))) Via.refl e1 S_GREATER (g := (mkF m 8 #[.val (.ref u_LESS_EQUAL)] [(.ref u_LESS_EQUAL)])) rfl (hb hby d15_8)
  have k3 : ∀ t, Steps p.tables e below (T2.setTop (mkF m 19 #[.val (.ref u_LESS_EQUAL)] [(.int (0 : Int32))])) t → Steps p.tables e below (s₁.setTop (entryFrame m #[(.ref u_LESS_EQUAL)] 1)) t := by
    intro t k
    refine pre0 t ?_
    show Steps p.tables e below (s₁.setTop (mkF m 0 #[.val (.ref u_LESS_EQUAL)] [])) _
    refine XS.aloadN X0.here hx rfl (hb hby d15_0) rfl rfl ?_
    show Steps p.tables e below (s₁.setTop (mkF m 1 #[.val (.ref u_LESS_EQUAL)] [(.ref u_LESS_EQUAL)])) _
    refine st1 _ ?_
    show Steps p.tables e below (T1.setTop (mkF m 4 #[.val (.ref u_LESS_EQUAL)] [(.ref u_LESS), (.ref u_LESS_EQUAL)])) _
    refine Jvm.RoadKit.acmp (g := (mkF m 4 #[.val (.ref u_LESS_EQUAL)] [(.ref u_LESS), (.ref u_LESS_EQUAL)])) X1 hx rfl rfl rfl (pc0 := 4) (pc' := 7) (same := false) rfl (hb hby d15_4) rfl (decide_eq_false fun q => hne_LESS (Value.ref.inj q)) (by decide) (by decide) ?_
    show Steps p.tables e below (T1.setTop (mkF m 7 #[.val (.ref u_LESS_EQUAL)] [])) _
    refine XS.aloadN X1.here hx rfl (hb hby d15_7) rfl rfl ?_
    show Steps p.tables e below (T1.setTop (mkF m 8 #[.val (.ref u_LESS_EQUAL)] [(.ref u_LESS_EQUAL)])) _
    refine st2 _ ?_
    show Steps p.tables e below (T2.setTop (mkF m 11 #[.val (.ref u_LESS_EQUAL)] [(.ref u_GREATER), (.ref u_LESS_EQUAL)])) _
    refine Jvm.RoadKit.acmp (g := (mkF m 11 #[.val (.ref u_LESS_EQUAL)] [(.ref u_GREATER), (.ref u_LESS_EQUAL)])) X2 hx rfl rfl rfl (pc0 := 11) (pc' := 18) (same := false) rfl (hb hby d15_11) rfl (decide_eq_false fun q => hne_GREATER (Value.ref.inj q)) (by decide) (by decide) ?_
    show Steps p.tables e below (T2.setTop (mkF m 18 #[.val (.ref u_LESS_EQUAL)] [])) _
    refine XS.iconst X2.here hx rfl (hb hby d15_18) ?_
    exact k
  obtain ⟨fs, hr, hrun, hended, hW, hsame⟩ := X2.leave (v := some (.int (0 : Int32))) (fun h => by rw [Bd.returns] at h; cases h)
  refine ⟨_, _, k3 _ ?_, hrun, hended, _, _, rfl, ?_, ⟨_, rfl⟩, hW, hsame.mono (by decide) (by decide)⟩
  · exact retN X2 hx (t := .boolean) Bd.returns (by simp) (hb hby d15_19) hr
  · show Q15 Z u_LESS_EQUAL u_LESS u_GREATER h0 n0 _ T2.heap _
    rw [e2]
    exact ⟨rfl, N0, rfl⟩
theorem d16_0 : decode prog_4_method_10_code 0 = .ok (.aload_n 0, 1) := by decide +kernel
theorem d16_1 : decode prog_4_method_10_code 1 = .ok (.invokevirtual 48, 3) := by decide +kernel
theorem d16_4 : decode prog_4_method_10_code 4 = .ok (.tableswitch 40 0 5 #[50, 62, 74, 86, 98, 110], 40) := by decide +kernel
theorem d16_90 : decode prog_4_method_10_code 90 = .ok (.iload_n 1, 1) := by decide +kernel
theorem d16_91 : decode prog_4_method_10_code 91 = .ok (.ifCond .gt 7, 3) := by decide +kernel
theorem d16_94 : decode prog_4_method_10_code 94 = .ok (.iconst 1, 1) := by decide +kernel
theorem d16_95 : decode prog_4_method_10_code 95 = .ok (.goto 28, 3) := by decide +kernel
theorem d16_123 : decode prog_4_method_10_code 123 = .ok (.ireturn, 1) := by decide +kernel
theorem ef_16 (m : MethodId) (u_LESS_EQUAL : Addr) : entryFrame m #[(.ref u_LESS_EQUAL), (.int (0 : Int32))] 2 = mkF m 0 #[.val (.ref u_LESS_EQUAL), .val (.int (0 : Int32))] [] := by first | (simp [entryFrame, mkF, argsToLocals, Value.category]; done) | rfl
def Q16 (Z : State) (u_LESS_EQUAL : Addr) (h0 : Heap) (n0 : Nat) (v : Option Value) (h : Heap) (L : List Loc) : Prop := v = some (.int (1 : Int32)) ∧ Fr n0 L ∧ h = h0
set_option maxRecDepth 65536 in
set_option maxHeartbeats 40000000 in
theorem rm16 (l : Launch) (Z : State) (a0 : Array Value) (hw : ∀ d ∈ tables_1, d.before a0 Z = true) (ws : List Jvm.Cond) (u_LESS_EQUAL : Addr) (h0 : Heap) (n0 : Nat) (Z0 : n0 ≤ h0.size) (Ex : Exa Z h0 u_LESS_EQUAL "com/example/chop/chop/model/Relation") (Fo : Fld Z h0 u_LESS_EQUAL "java/lang/Enum" "ordinal" "I" (.int (3 : Int32))) :
    MetFree l (⟨"com/example/chop/chop/model/Relation", "holds", "(I)Z"⟩ : MethodName) (head1 (Jvm.Cond.code (⟨"com/example/chop/chop/model/Relation", "holds", "(I)Z"⟩ : MethodName) prog_4_method_10_code 2 (some .boolean) :: ws) ({ frames := 1, cells := 0, slots := 0, locals := 12 } : Room)) (fun a U => a = #[(.ref u_LESS_EQUAL), (.int (0 : Int32))] ∧ Z.Warmed39 U.vm ∧ U.heap = h0) (fun _ _ _ _ _ => True) (fun _ U o U' => ∃ v L, o = .returned v ∧ Q16 Z u_LESS_EQUAL h0 n0 v U'.heap L ∧ FrameEnd U o U' L ({ frames := 1, cells := 0, slots := 0, locals := 12 } : Room).cells ({ frames := 1, cells := 0, slots := 0, locals := 12 } : Room).slots) := by
  refine MetFree.of_bodySF (plainFor_of_name pn_1) hisR ?_
  intro p e s m args below meth c s₁ Bd hml0 hP hK
  obtain ⟨rfl, hZ, hh⟩ := hP
  have hx := Bd.exec
  have hby := Bd.bytes
  have hml : c.maxLocals = 2 := hml0
  have hown : s.vm.findClass "com/example/chop/chop/model/Relation" = some m.cls := findClass_of_methodNamed Bd.named
  have hnm := (name_of_methodNamed Bd.named Bd.method).1
  have X0 : Stand p l e ({ frames := 1, cells := 0, slots := 0, locals := 12 } : Room) s m #[(.ref u_LESS_EQUAL), (.int (0 : Int32))] below meth c s₁ [] 0 0 := Stand.of_body Bd
  have e0 : s₁.heap = h0 := by rw [← hh, Bd.state]; rfl
  have N0 := Fr.nil n0
  have pre0 : ∀ t, Steps p.tables e below (s₁.setTop (mkF m 0 #[.val (.ref u_LESS_EQUAL), .val (.int (0 : Int32))] [])) t → Steps p.tables e below (s₁.setTop (entryFrame m #[(.ref u_LESS_EQUAL), (.int (0 : Int32))] 2)) t := fun t k => castTop (ef_16 m u_LESS_EQUAL) k
  obtain ⟨cq1, kq1, q1a, q1b, q1c⟩ := isOf hZ e0 Ex
  obtain ⟨_, _, ⟨T1, L1, k1, n1⟩, -, X1, ⟨Lc1, hQ1, l1, y1, z1⟩, st1⟩ := X0.virtualBackUp hx (x := (⟨"com/example/chop/chop/model/Relation", "ordinal", "()I"⟩ : MethodName)) (y := (⟨"java/lang/Enum", "ordinal", "()I"⟩ : MethodName)) (owner := "java/lang/Enum") hown (mvT hZ (hw _ (List.mem_of_getElem? (i := 36) rfl))) (mvT hZ (hw _ (List.mem_of_getElem? (i := 37) rfl))) (mvT hZ (hw _ (List.mem_of_getElem? (i := 38) rfl))) (by decide) (mvT hZ (hw _ (List.mem_of_getElem? (i := 40) rfl))) (mvT hZ (hw _ (List.mem_of_getElem? (i := 39) rfl))) (backOf (W := 0) (rm13 l Z a0 hw [] u_LESS_EQUAL h0 n0 Z0 Fo) hZ (hw _ (List.mem_of_getElem? (i := 42) rfl)) (hw _ (List.mem_of_getElem? (i := 41) rfl)) (by decide) (by decide)) q1a q1c (g := (mkF m 1 #[.val (.ref u_LESS_EQUAL), .val (.int (0 : Int32))] [(.ref u_LESS_EQUAL)])) rfl (by rw [hml]; rfl) (Steps.refl _) (argsL := []) (rest := []) (lenOf pd_0 rfl) rfl (by show 2 * 0 + _ ≤ _; exact Nat.le_of_eq rfl) (hb hby d16_1) (fun _ _ => ⟨rfl, e0, (by decide : 0 + 0 ≤ _), (by decide : 0 + 0 ≤ _)⟩)
  dsimp only [Pt.U, Pt.locs, Pt.cells, Pt.slots] at X1 l1 y1 z1 st1 hQ1
  subst l1 y1 z1
  obtain ⟨rfl, N1q, eh1⟩ := hQ1
  have N1 := Fr.app N0 N1q
  have k2 : ∀ t, Steps p.tables e below (T1.setTop (mkF m 123 #[.val (.ref u_LESS_EQUAL), .val (.int (0 : Int32))] [(.int (1 : Int32))])) t → Steps p.tables e below (s₁.setTop (entryFrame m #[(.ref u_LESS_EQUAL), (.int (0 : Int32))] 2)) t := by
    intro t k
    refine pre0 t ?_
    show Steps p.tables e below (s₁.setTop (mkF m 0 #[.val (.ref u_LESS_EQUAL), .val (.int (0 : Int32))] [])) _
    refine XS.aloadN X0.here hx rfl (hb hby d16_0) rfl rfl ?_
    show Steps p.tables e below (s₁.setTop (mkF m 1 #[.val (.ref u_LESS_EQUAL), .val (.int (0 : Int32))] [(.ref u_LESS_EQUAL)])) _
    refine st1.trans ?_
    show Steps p.tables e below (T1.setTop (mkF m 4 #[.val (.ref u_LESS_EQUAL), .val (.int (0 : Int32))] [(.int (3 : Int32))])) _
    refine XS.tswIn X1.here hx rfl (pc0 := 4) (pc' := 90) rfl (hb hby d16_4) rfl (by decide) rfl (by decide) (by decide) ?_
    show Steps p.tables e below (T1.setTop (mkF m 90 #[.val (.ref u_LESS_EQUAL), .val (.int (0 : Int32))] [])) _
    refine XS.iloadN X1.here hx rfl (hb hby d16_90) rfl ?_
    show Steps p.tables e below (T1.setTop (mkF m 91 #[.val (.ref u_LESS_EQUAL), .val (.int (0 : Int32))] [(.int (0 : Int32))])) _
    refine XS.ifNo X1.here hx rfl (hb hby d16_91) rfl ((if0 _ _).trans (flt (by decide : ¬ ((0 : Int32) < (0 : Int32)))).2.2.1) ?_
    show Steps p.tables e below (T1.setTop (mkF m 94 #[.val (.ref u_LESS_EQUAL), .val (.int (0 : Int32))] [])) _
    refine XS.iconst X1.here hx rfl (hb hby d16_94) ?_
    show Steps p.tables e below (T1.setTop (mkF m 95 #[.val (.ref u_LESS_EQUAL), .val (.int (0 : Int32))] [(.int (1 : Int32))])) _
    refine XS.goto X1.here hx rfl (pc0 := 95) (pc' := 123) rfl (hb hby d16_95) (by decide) (by decide) ?_
    exact k
  obtain ⟨fs, hr, hrun, hended, hW, hsame⟩ := X1.leave (v := some (.int (1 : Int32))) (fun h => by rw [Bd.returns] at h; cases h)
  refine ⟨_, _, k2 _ ?_, hrun, hended, _, _, rfl, ?_, ⟨_, rfl⟩, hW, hsame.mono (by decide) (by decide)⟩
  · exact retN X1 hx (t := .boolean) Bd.returns (by simp) (hb hby d16_123) hr
  · show Q16 Z u_LESS_EQUAL h0 n0 _ T1.heap _
    rw [eh1]
    exact ⟨rfl, N1, rfl⟩
theorem d17_0 : decode jdk_37_method_2_code 0 = .ok (.aload_n 0, 1) := by decide +kernel
theorem d17_1 : decode jdk_37_method_2_code 1 = .ok (.getfield 7, 3) := by decide +kernel
theorem d17_4 : decode jdk_37_method_2_code 4 = .ok (.ireturn, 1) := by decide +kernel
theorem ef_17 (m : MethodId) (a17_0 : Addr) : entryFrame m #[(.ref a17_0)] 1 = mkF m 0 #[.val (.ref a17_0)] [] := by first | (simp [entryFrame, mkF, argsToLocals, Value.category]; done) | rfl
def Q17 (Z : State) (a17_0 : Addr) (h0 : Heap) (n0 : Nat) (v : Option Value) (h : Heap) (L : List Loc) : Prop := v = some (.int (4 : Int32)) ∧ Fr n0 L ∧ h = h0
set_option maxRecDepth 65536 in
set_option maxHeartbeats 40000000 in
theorem rm17 (l : Launch) (Z : State) (a0 : Array Value) (hw : ∀ d ∈ tables_1, d.before a0 Z = true) (ws : List Jvm.Cond) (a17_0 : Addr) (h0 : Heap) (n0 : Nat) (Z0 : n0 ≤ h0.size) (Fo : Fld Z h0 a17_0 "java/lang/Enum" "ordinal" "I" (.int (4 : Int32))) :
    MetFree l (⟨"java/lang/Enum", "ordinal", "()I"⟩ : MethodName) (head1 (Jvm.Cond.code (⟨"java/lang/Enum", "ordinal", "()I"⟩ : MethodName) jdk_37_method_2_code 1 (some .int) :: ws) ({ frames := 0, cells := 0, slots := 0, locals := 0 } : Room)) (fun a U => a = #[(.ref a17_0)] ∧ Z.Warmed39 U.vm ∧ U.heap = h0) (fun _ _ _ _ _ => True) (fun _ U o U' => ∃ v L, o = .returned v ∧ Q17 Z a17_0 h0 n0 v U'.heap L ∧ FrameEnd U o U' L ({ frames := 0, cells := 0, slots := 0, locals := 0 } : Room).cells ({ frames := 0, cells := 0, slots := 0, locals := 0 } : Room).slots) := by
  refine MetFree.of_bodySF (plainFor_of_name pn_0) hisR ?_
  intro p e s m args below meth c s₁ Bd hml0 hP hK
  obtain ⟨rfl, hZ, hh⟩ := hP
  have hx := Bd.exec
  have hby := Bd.bytes
  have hml : c.maxLocals = 1 := hml0
  have hown : s.vm.findClass "java/lang/Enum" = some m.cls := findClass_of_methodNamed Bd.named
  have hnm := (name_of_methodNamed Bd.named Bd.method).1
  have X0 : Stand p l e ({ frames := 0, cells := 0, slots := 0, locals := 0 } : Room) s m #[(.ref a17_0)] below meth c s₁ [] 0 0 := Stand.of_body Bd
  have e0 : s₁.heap = h0 := by rw [← hh, Bd.state]; rfl
  have N0 := Fr.nil n0
  have pre0 : ∀ t, Steps p.tables e below (s₁.setTop (mkF m 0 #[.val (.ref a17_0)] [])) t → Steps p.tables e below (s₁.setTop (entryFrame m #[(.ref a17_0)] 1)) t := fun t k => castTop (ef_17 m a17_0) k
  obtain ⟨T1, X1, e1, st1⟩ := getF X0 hx hZ hown (host := "") (Or.inl (hw _ (List.mem_of_getElem? (i := 43) rfl))) Via.refl e0 Fo (g := (mkF m 1 #[.val (.ref a17_0)] [(.ref a17_0)])) rfl rfl (hb hby d17_1)
  have k2 : ∀ t, Steps p.tables e below (T1.setTop (mkF m 4 #[.val (.ref a17_0)] [(.int (4 : Int32))])) t → Steps p.tables e below (s₁.setTop (entryFrame m #[(.ref a17_0)] 1)) t := by
    intro t k
    refine pre0 t ?_
    show Steps p.tables e below (s₁.setTop (mkF m 0 #[.val (.ref a17_0)] [])) _
    refine XS.aloadN X0.here hx rfl (hb hby d17_0) rfl rfl ?_
    show Steps p.tables e below (s₁.setTop (mkF m 1 #[.val (.ref a17_0)] [(.ref a17_0)])) _
    refine st1 _ ?_
    exact k
  obtain ⟨fs, hr, hrun, hended, hW, hsame⟩ := X1.leave (v := some (.int (4 : Int32))) (fun h => by rw [Bd.returns] at h; cases h)
  refine ⟨_, _, k2 _ ?_, hrun, hended, _, _, rfl, ?_, ⟨_, rfl⟩, hW, hsame.mono (by decide) (by decide)⟩
  · exact retI X1 hx Bd.returns (hb hby d17_4) hr
  · show Q17 Z a17_0 h0 n0 _ T1.heap _
    rw [e1]
    exact ⟨rfl, N0, rfl⟩
theorem d18_0 : decode prog_4_method_6_code 0 = .ok (.aload_n 0, 1) := by decide +kernel
theorem d18_1 : decode prog_4_method_6_code 1 = .ok (.getstatic 3, 3) := by decide +kernel
theorem d18_4 : decode prog_4_method_6_code 4 = .ok (.if_acmp .eq 14, 3) := by decide +kernel
theorem d18_7 : decode prog_4_method_6_code 7 = .ok (.aload_n 0, 1) := by decide +kernel
theorem d18_8 : decode prog_4_method_6_code 8 = .ok (.getstatic 7, 3) := by decide +kernel
theorem d18_11 : decode prog_4_method_6_code 11 = .ok (.if_acmp .eq 7, 3) := by decide +kernel
theorem d18_14 : decode prog_4_method_6_code 14 = .ok (.iconst 1, 1) := by decide +kernel
theorem d18_15 : decode prog_4_method_6_code 15 = .ok (.goto 4, 3) := by decide +kernel
theorem d18_19 : decode prog_4_method_6_code 19 = .ok (.ireturn, 1) := by decide +kernel
theorem ef_18 (m : MethodId) (u_GREATER : Addr) : entryFrame m #[(.ref u_GREATER)] 1 = mkF m 0 #[.val (.ref u_GREATER)] [] := by first | (simp [entryFrame, mkF, argsToLocals, Value.category]; done) | rfl
def Q18 (Z : State) (u_GREATER : Addr) (u_EQUAL : Addr) (u_NOT_EQUAL : Addr) (h0 : Heap) (n0 : Nat) (v : Option Value) (h : Heap) (L : List Loc) : Prop := v = some (.int (1 : Int32)) ∧ Fr n0 L ∧ h = h0
set_option maxRecDepth 65536 in
set_option maxHeartbeats 40000000 in
theorem rm18 (l : Launch) (Z : State) (a0 : Array Value) (hw : ∀ d ∈ tables_1, d.before a0 Z = true) (ws : List Jvm.Cond) (u_GREATER : Addr) (u_EQUAL : Addr) (u_NOT_EQUAL : Addr) (h0 : Heap) (n0 : Nat) (Z0 : n0 ≤ h0.size) (S_EQUAL : Sta Z h0 "com/example/chop/chop/model/Relation" "EQUAL" "Lcom/example/chop/chop/model/Relation;" (.ref u_EQUAL)) (S_NOT_EQUAL : Sta Z h0 "com/example/chop/chop/model/Relation" "NOT_EQUAL" "Lcom/example/chop/chop/model/Relation;" (.ref u_NOT_EQUAL)) (hne_EQUAL : u_GREATER ≠ u_EQUAL) (hne_NOT_EQUAL : u_GREATER ≠ u_NOT_EQUAL) :
    MetFree l (⟨"com/example/chop/chop/model/Relation", "isBound", "()Z"⟩ : MethodName) (head1 (Jvm.Cond.code (⟨"com/example/chop/chop/model/Relation", "isBound", "()Z"⟩ : MethodName) prog_4_method_6_code 1 (some .boolean) :: ws) ({ frames := 0, cells := 0, slots := 0, locals := 0 } : Room)) (fun a U => a = #[(.ref u_GREATER)] ∧ Z.Warmed39 U.vm ∧ U.heap = h0) (fun _ _ _ _ _ => True) (fun _ U o U' => ∃ v L, o = .returned v ∧ Q18 Z u_GREATER u_EQUAL u_NOT_EQUAL h0 n0 v U'.heap L ∧ FrameEnd U o U' L ({ frames := 0, cells := 0, slots := 0, locals := 0 } : Room).cells ({ frames := 0, cells := 0, slots := 0, locals := 0 } : Room).slots) := by
  refine MetFree.of_bodySF (plainFor_of_name pn_1) hisR ?_
  intro p e s m args below meth c s₁ Bd hml0 hP hK
  obtain ⟨rfl, hZ, hh⟩ := hP
  have hx := Bd.exec
  have hby := Bd.bytes
  have hml : c.maxLocals = 1 := hml0
  have hown : s.vm.findClass "com/example/chop/chop/model/Relation" = some m.cls := findClass_of_methodNamed Bd.named
  have hnm := (name_of_methodNamed Bd.named Bd.method).1
  have X0 : Stand p l e ({ frames := 0, cells := 0, slots := 0, locals := 0 } : Room) s m #[(.ref u_GREATER)] below meth c s₁ [] 0 0 := Stand.of_body Bd
  have e0 : s₁.heap = h0 := by rw [← hh, Bd.state]; rfl
  have N0 := Fr.nil n0
  have pre0 : ∀ t, Steps p.tables e below (s₁.setTop (mkF m 0 #[.val (.ref u_GREATER)] [])) t → Steps p.tables e below (s₁.setTop (entryFrame m #[(.ref u_GREATER)] 1)) t := fun t k => castTop (ef_18 m u_GREATER) k
  obtain ⟨T1, X1, e1, st1⟩ := getS2 X0 hx hZ hown (host := "") (Or.inl (hw _ (List.mem_of_getElem? (i := 29) rfl))) Via.refl e0 S_EQUAL (g := (mkF m 1 #[.val (.ref u_GREATER)] [(.ref u_GREATER)])) rfl (hb hby d18_1)
  obtain ⟨T2, X2, e2, st2⟩ := getS2 X1 hx hZ hown (host := "") (Or.inl (hw _ (List.mem_of_getElem? (i := 30) rfl))) Via.refl e1 S_NOT_EQUAL (g := (mkF m 8 #[.val (.ref u_GREATER)] [(.ref u_GREATER)])) rfl (hb hby d18_8)
  have k3 : ∀ t, Steps p.tables e below (T2.setTop (mkF m 19 #[.val (.ref u_GREATER)] [(.int (1 : Int32))])) t → Steps p.tables e below (s₁.setTop (entryFrame m #[(.ref u_GREATER)] 1)) t := by
    intro t k
    refine pre0 t ?_
    show Steps p.tables e below (s₁.setTop (mkF m 0 #[.val (.ref u_GREATER)] [])) _
    refine XS.aloadN X0.here hx rfl (hb hby d18_0) rfl rfl ?_
    show Steps p.tables e below (s₁.setTop (mkF m 1 #[.val (.ref u_GREATER)] [(.ref u_GREATER)])) _
    refine st1 _ ?_
    show Steps p.tables e below (T1.setTop (mkF m 4 #[.val (.ref u_GREATER)] [(.ref u_EQUAL), (.ref u_GREATER)])) _
    refine Jvm.RoadKit.acmp (g := (mkF m 4 #[.val (.ref u_GREATER)] [(.ref u_EQUAL), (.ref u_GREATER)])) X1 hx rfl rfl rfl (pc0 := 4) (pc' := 7) (same := false) rfl (hb hby d18_4) rfl (decide_eq_false fun q => hne_EQUAL (Value.ref.inj q)) (by decide) (by decide) ?_
    show Steps p.tables e below (T1.setTop (mkF m 7 #[.val (.ref u_GREATER)] [])) _
    refine XS.aloadN X1.here hx rfl (hb hby d18_7) rfl rfl ?_
    show Steps p.tables e below (T1.setTop (mkF m 8 #[.val (.ref u_GREATER)] [(.ref u_GREATER)])) _
    refine st2 _ ?_
    show Steps p.tables e below (T2.setTop (mkF m 11 #[.val (.ref u_GREATER)] [(.ref u_NOT_EQUAL), (.ref u_GREATER)])) _
    refine Jvm.RoadKit.acmp (g := (mkF m 11 #[.val (.ref u_GREATER)] [(.ref u_NOT_EQUAL), (.ref u_GREATER)])) X2 hx rfl rfl rfl (pc0 := 11) (pc' := 14) (same := false) rfl (hb hby d18_11) rfl (decide_eq_false fun q => hne_NOT_EQUAL (Value.ref.inj q)) (by decide) (by decide) ?_
    show Steps p.tables e below (T2.setTop (mkF m 14 #[.val (.ref u_GREATER)] [])) _
    refine XS.iconst X2.here hx rfl (hb hby d18_14) ?_
    show Steps p.tables e below (T2.setTop (mkF m 15 #[.val (.ref u_GREATER)] [(.int (1 : Int32))])) _
    refine XS.goto X2.here hx rfl (pc0 := 15) (pc' := 19) rfl (hb hby d18_15) (by decide) (by decide) ?_
    exact k
  obtain ⟨fs, hr, hrun, hended, hW, hsame⟩ := X2.leave (v := some (.int (1 : Int32))) (fun h => by rw [Bd.returns] at h; cases h)
  refine ⟨_, _, k3 _ ?_, hrun, hended, _, _, rfl, ?_, ⟨_, rfl⟩, hW, hsame.mono (by decide) (by decide)⟩
  · exact retN X2 hx (t := .boolean) Bd.returns (by simp) (hb hby d18_19) hr
  · show Q18 Z u_GREATER u_EQUAL u_NOT_EQUAL h0 n0 _ T2.heap _
    rw [e2]
    exact ⟨rfl, N0, rfl⟩
theorem d19_0 : decode prog_4_method_8_code 0 = .ok (.aload_n 0, 1) := by decide +kernel
theorem d19_1 : decode prog_4_method_8_code 1 = .ok (.getstatic 10, 3) := by decide +kernel
theorem d19_4 : decode prog_4_method_8_code 4 = .ok (.if_acmp .eq 10, 3) := by decide +kernel
theorem d19_7 : decode prog_4_method_8_code 7 = .ok (.aload_n 0, 1) := by decide +kernel
theorem d19_8 : decode prog_4_method_8_code 8 = .ok (.getstatic 16, 3) := by decide +kernel
theorem d19_11 : decode prog_4_method_8_code 11 = .ok (.if_acmp .ne 7, 3) := by decide +kernel
theorem d19_14 : decode prog_4_method_8_code 14 = .ok (.iconst 1, 1) := by decide +kernel
theorem d19_15 : decode prog_4_method_8_code 15 = .ok (.goto 4, 3) := by decide +kernel
theorem d19_19 : decode prog_4_method_8_code 19 = .ok (.ireturn, 1) := by decide +kernel
theorem ef_19 (m : MethodId) (u_GREATER : Addr) : entryFrame m #[(.ref u_GREATER)] 1 = mkF m 0 #[.val (.ref u_GREATER)] [] := by first | (simp [entryFrame, mkF, argsToLocals, Value.category]; done) | rfl
def Q19 (Z : State) (u_GREATER : Addr) (u_LESS : Addr) (h0 : Heap) (n0 : Nat) (v : Option Value) (h : Heap) (L : List Loc) : Prop := v = some (.int (1 : Int32)) ∧ Fr n0 L ∧ h = h0
set_option maxRecDepth 65536 in
set_option maxHeartbeats 40000000 in
theorem rm19 (l : Launch) (Z : State) (a0 : Array Value) (hw : ∀ d ∈ tables_1, d.before a0 Z = true) (ws : List Jvm.Cond) (u_GREATER : Addr) (u_LESS : Addr) (h0 : Heap) (n0 : Nat) (Z0 : n0 ≤ h0.size) (S_LESS : Sta Z h0 "com/example/chop/chop/model/Relation" "LESS" "Lcom/example/chop/chop/model/Relation;" (.ref u_LESS)) (S_GREATER : Sta Z h0 "com/example/chop/chop/model/Relation" "GREATER" "Lcom/example/chop/chop/model/Relation;" (.ref u_GREATER)) (hne_LESS : u_GREATER ≠ u_LESS) :
    MetFree l (⟨"com/example/chop/chop/model/Relation", "isStrict", "()Z"⟩ : MethodName) (head1 (Jvm.Cond.code (⟨"com/example/chop/chop/model/Relation", "isStrict", "()Z"⟩ : MethodName) prog_4_method_8_code 1 (some .boolean) :: ws) ({ frames := 0, cells := 0, slots := 0, locals := 0 } : Room)) (fun a U => a = #[(.ref u_GREATER)] ∧ Z.Warmed39 U.vm ∧ U.heap = h0) (fun _ _ _ _ _ => True) (fun _ U o U' => ∃ v L, o = .returned v ∧ Q19 Z u_GREATER u_LESS h0 n0 v U'.heap L ∧ FrameEnd U o U' L ({ frames := 0, cells := 0, slots := 0, locals := 0 } : Room).cells ({ frames := 0, cells := 0, slots := 0, locals := 0 } : Room).slots) := by
  refine MetFree.of_bodySF (plainFor_of_name pn_1) hisR ?_
  intro p e s m args below meth c s₁ Bd hml0 hP hK
  obtain ⟨rfl, hZ, hh⟩ := hP
  have hx := Bd.exec
  have hby := Bd.bytes
  have hml : c.maxLocals = 1 := hml0
  have hown : s.vm.findClass "com/example/chop/chop/model/Relation" = some m.cls := findClass_of_methodNamed Bd.named
  have hnm := (name_of_methodNamed Bd.named Bd.method).1
  have X0 : Stand p l e ({ frames := 0, cells := 0, slots := 0, locals := 0 } : Room) s m #[(.ref u_GREATER)] below meth c s₁ [] 0 0 := Stand.of_body Bd
  have e0 : s₁.heap = h0 := by rw [← hh, Bd.state]; rfl
  have N0 := Fr.nil n0
  have pre0 : ∀ t, Steps p.tables e below (s₁.setTop (mkF m 0 #[.val (.ref u_GREATER)] [])) t → Steps p.tables e below (s₁.setTop (entryFrame m #[(.ref u_GREATER)] 1)) t := fun t k => castTop (ef_19 m u_GREATER) k
  obtain ⟨T1, X1, e1, st1⟩ := getS2 X0 hx hZ hown (host := "") (Or.inl (hw _ (List.mem_of_getElem? (i := 22) rfl))) Via.refl e0 S_LESS (g := (mkF m 1 #[.val (.ref u_GREATER)] [(.ref u_GREATER)])) rfl (hb hby d19_1)
  obtain ⟨T2, X2, e2, st2⟩ := getS2 X1 hx hZ hown (host := "") (Or.inl (hw _ (List.mem_of_getElem? (i := 23) rfl))) Via.refl e1 S_GREATER (g := (mkF m 8 #[.val (.ref u_GREATER)] [(.ref u_GREATER)])) rfl (hb hby d19_8)
  have k3 : ∀ t, Steps p.tables e below (T2.setTop (mkF m 19 #[.val (.ref u_GREATER)] [(.int (1 : Int32))])) t → Steps p.tables e below (s₁.setTop (entryFrame m #[(.ref u_GREATER)] 1)) t := by
    intro t k
    refine pre0 t ?_
    show Steps p.tables e below (s₁.setTop (mkF m 0 #[.val (.ref u_GREATER)] [])) _
    refine XS.aloadN X0.here hx rfl (hb hby d19_0) rfl rfl ?_
    show Steps p.tables e below (s₁.setTop (mkF m 1 #[.val (.ref u_GREATER)] [(.ref u_GREATER)])) _
    refine st1 _ ?_
    show Steps p.tables e below (T1.setTop (mkF m 4 #[.val (.ref u_GREATER)] [(.ref u_LESS), (.ref u_GREATER)])) _
    refine Jvm.RoadKit.acmp (g := (mkF m 4 #[.val (.ref u_GREATER)] [(.ref u_LESS), (.ref u_GREATER)])) X1 hx rfl rfl rfl (pc0 := 4) (pc' := 7) (same := false) rfl (hb hby d19_4) rfl (decide_eq_false fun q => hne_LESS (Value.ref.inj q)) (by decide) (by decide) ?_
    show Steps p.tables e below (T1.setTop (mkF m 7 #[.val (.ref u_GREATER)] [])) _
    refine XS.aloadN X1.here hx rfl (hb hby d19_7) rfl rfl ?_
    show Steps p.tables e below (T1.setTop (mkF m 8 #[.val (.ref u_GREATER)] [(.ref u_GREATER)])) _
    refine st2 _ ?_
    show Steps p.tables e below (T2.setTop (mkF m 11 #[.val (.ref u_GREATER)] [(.ref u_GREATER), (.ref u_GREATER)])) _
    refine Jvm.RoadKit.acmp (g := (mkF m 11 #[.val (.ref u_GREATER)] [(.ref u_GREATER), (.ref u_GREATER)])) X2 hx rfl rfl rfl (pc0 := 11) (pc' := 14) (same := true) rfl (hb hby d19_11) rfl (decide_eq_true rfl) (by decide) (by decide) ?_
    show Steps p.tables e below (T2.setTop (mkF m 14 #[.val (.ref u_GREATER)] [])) _
    refine XS.iconst X2.here hx rfl (hb hby d19_14) ?_
    show Steps p.tables e below (T2.setTop (mkF m 15 #[.val (.ref u_GREATER)] [(.int (1 : Int32))])) _
    refine XS.goto X2.here hx rfl (pc0 := 15) (pc' := 19) rfl (hb hby d19_15) (by decide) (by decide) ?_
    exact k
  obtain ⟨fs, hr, hrun, hended, hW, hsame⟩ := X2.leave (v := some (.int (1 : Int32))) (fun h => by rw [Bd.returns] at h; cases h)
  refine ⟨_, _, k3 _ ?_, hrun, hended, _, _, rfl, ?_, ⟨_, rfl⟩, hW, hsame.mono (by decide) (by decide)⟩
  · exact retN X2 hx (t := .boolean) Bd.returns (by simp) (hb hby d19_19) hr
  · show Q19 Z u_GREATER u_LESS h0 n0 _ T2.heap _
    rw [e2]
    exact ⟨rfl, N0, rfl⟩
theorem d20_0 : decode prog_4_method_10_code 0 = .ok (.aload_n 0, 1) := by decide +kernel
theorem d20_1 : decode prog_4_method_10_code 1 = .ok (.invokevirtual 48, 3) := by decide +kernel
theorem d20_4 : decode prog_4_method_10_code 4 = .ok (.tableswitch 40 0 5 #[50, 62, 74, 86, 98, 110], 40) := by decide +kernel
theorem d20_102 : decode prog_4_method_10_code 102 = .ok (.iload_n 1, 1) := by decide +kernel
theorem d20_103 : decode prog_4_method_10_code 103 = .ok (.ifCond .le 7, 3) := by decide +kernel
theorem d20_110 : decode prog_4_method_10_code 110 = .ok (.iconst 0, 1) := by decide +kernel
theorem d20_111 : decode prog_4_method_10_code 111 = .ok (.goto 12, 3) := by decide +kernel
theorem d20_123 : decode prog_4_method_10_code 123 = .ok (.ireturn, 1) := by decide +kernel
theorem ef_20 (m : MethodId) (u_GREATER : Addr) : entryFrame m #[(.ref u_GREATER), (.int (0 : Int32))] 2 = mkF m 0 #[.val (.ref u_GREATER), .val (.int (0 : Int32))] [] := by first | (simp [entryFrame, mkF, argsToLocals, Value.category]; done) | rfl
def Q20 (Z : State) (u_GREATER : Addr) (h0 : Heap) (n0 : Nat) (v : Option Value) (h : Heap) (L : List Loc) : Prop := v = some (.int (0 : Int32)) ∧ Fr n0 L ∧ h = h0
set_option maxRecDepth 65536 in
set_option maxHeartbeats 40000000 in
theorem rm20 (l : Launch) (Z : State) (a0 : Array Value) (hw : ∀ d ∈ tables_1, d.before a0 Z = true) (ws : List Jvm.Cond) (u_GREATER : Addr) (h0 : Heap) (n0 : Nat) (Z0 : n0 ≤ h0.size) (Ex : Exa Z h0 u_GREATER "com/example/chop/chop/model/Relation") (Fo : Fld Z h0 u_GREATER "java/lang/Enum" "ordinal" "I" (.int (4 : Int32))) :
    MetFree l (⟨"com/example/chop/chop/model/Relation", "holds", "(I)Z"⟩ : MethodName) (head1 (Jvm.Cond.code (⟨"com/example/chop/chop/model/Relation", "holds", "(I)Z"⟩ : MethodName) prog_4_method_10_code 2 (some .boolean) :: ws) ({ frames := 1, cells := 0, slots := 0, locals := 12 } : Room)) (fun a U => a = #[(.ref u_GREATER), (.int (0 : Int32))] ∧ Z.Warmed39 U.vm ∧ U.heap = h0) (fun _ _ _ _ _ => True) (fun _ U o U' => ∃ v L, o = .returned v ∧ Q20 Z u_GREATER h0 n0 v U'.heap L ∧ FrameEnd U o U' L ({ frames := 1, cells := 0, slots := 0, locals := 12 } : Room).cells ({ frames := 1, cells := 0, slots := 0, locals := 12 } : Room).slots) := by
  refine MetFree.of_bodySF (plainFor_of_name pn_1) hisR ?_
  intro p e s m args below meth c s₁ Bd hml0 hP hK
  obtain ⟨rfl, hZ, hh⟩ := hP
  have hx := Bd.exec
  have hby := Bd.bytes
  have hml : c.maxLocals = 2 := hml0
  have hown : s.vm.findClass "com/example/chop/chop/model/Relation" = some m.cls := findClass_of_methodNamed Bd.named
  have hnm := (name_of_methodNamed Bd.named Bd.method).1
  have X0 : Stand p l e ({ frames := 1, cells := 0, slots := 0, locals := 12 } : Room) s m #[(.ref u_GREATER), (.int (0 : Int32))] below meth c s₁ [] 0 0 := Stand.of_body Bd
  have e0 : s₁.heap = h0 := by rw [← hh, Bd.state]; rfl
  have N0 := Fr.nil n0
  have pre0 : ∀ t, Steps p.tables e below (s₁.setTop (mkF m 0 #[.val (.ref u_GREATER), .val (.int (0 : Int32))] [])) t → Steps p.tables e below (s₁.setTop (entryFrame m #[(.ref u_GREATER), (.int (0 : Int32))] 2)) t := fun t k => castTop (ef_20 m u_GREATER) k
  obtain ⟨cq1, kq1, q1a, q1b, q1c⟩ := isOf hZ e0 Ex
  obtain ⟨_, _, ⟨T1, L1, k1, n1⟩, -, X1, ⟨Lc1, hQ1, l1, y1, z1⟩, st1⟩ := X0.virtualBackUp hx (x := (⟨"com/example/chop/chop/model/Relation", "ordinal", "()I"⟩ : MethodName)) (y := (⟨"java/lang/Enum", "ordinal", "()I"⟩ : MethodName)) (owner := "java/lang/Enum") hown (mvT hZ (hw _ (List.mem_of_getElem? (i := 36) rfl))) (mvT hZ (hw _ (List.mem_of_getElem? (i := 37) rfl))) (mvT hZ (hw _ (List.mem_of_getElem? (i := 38) rfl))) (by decide) (mvT hZ (hw _ (List.mem_of_getElem? (i := 40) rfl))) (mvT hZ (hw _ (List.mem_of_getElem? (i := 39) rfl))) (backOf (W := 0) (rm17 l Z a0 hw [] u_GREATER h0 n0 Z0 Fo) hZ (hw _ (List.mem_of_getElem? (i := 42) rfl)) (hw _ (List.mem_of_getElem? (i := 41) rfl)) (by decide) (by decide)) q1a q1c (g := (mkF m 1 #[.val (.ref u_GREATER), .val (.int (0 : Int32))] [(.ref u_GREATER)])) rfl (by rw [hml]; rfl) (Steps.refl _) (argsL := []) (rest := []) (lenOf pd_0 rfl) rfl (by show 2 * 0 + _ ≤ _; exact Nat.le_of_eq rfl) (hb hby d20_1) (fun _ _ => ⟨rfl, e0, (by decide : 0 + 0 ≤ _), (by decide : 0 + 0 ≤ _)⟩)
  dsimp only [Pt.U, Pt.locs, Pt.cells, Pt.slots] at X1 l1 y1 z1 st1 hQ1
  subst l1 y1 z1
  obtain ⟨rfl, N1q, eh1⟩ := hQ1
  have N1 := Fr.app N0 N1q
  have k2 : ∀ t, Steps p.tables e below (T1.setTop (mkF m 123 #[.val (.ref u_GREATER), .val (.int (0 : Int32))] [(.int (0 : Int32))])) t → Steps p.tables e below (s₁.setTop (entryFrame m #[(.ref u_GREATER), (.int (0 : Int32))] 2)) t := by
    intro t k
    refine pre0 t ?_
    show Steps p.tables e below (s₁.setTop (mkF m 0 #[.val (.ref u_GREATER), .val (.int (0 : Int32))] [])) _
    refine XS.aloadN X0.here hx rfl (hb hby d20_0) rfl rfl ?_
    show Steps p.tables e below (s₁.setTop (mkF m 1 #[.val (.ref u_GREATER), .val (.int (0 : Int32))] [(.ref u_GREATER)])) _
    refine st1.trans ?_
    show Steps p.tables e below (T1.setTop (mkF m 4 #[.val (.ref u_GREATER), .val (.int (0 : Int32))] [(.int (4 : Int32))])) _
    refine XS.tswIn X1.here hx rfl (pc0 := 4) (pc' := 102) rfl (hb hby d20_4) rfl (by decide) rfl (by decide) (by decide) ?_
    show Steps p.tables e below (T1.setTop (mkF m 102 #[.val (.ref u_GREATER), .val (.int (0 : Int32))] [])) _
    refine XS.iloadN X1.here hx rfl (hb hby d20_102) rfl ?_
    show Steps p.tables e below (T1.setTop (mkF m 103 #[.val (.ref u_GREATER), .val (.int (0 : Int32))] [(.int (0 : Int32))])) _
    refine XS.ifYes X1.here hx rfl (pc0 := 103) (pc' := 110) rfl (hb hby d20_103) rfl ((if0 _ _).trans (flt (by decide : ¬ ((0 : Int32) < (0 : Int32)))).2.2.2) (by decide) (by decide) ?_
    show Steps p.tables e below (T1.setTop (mkF m 110 #[.val (.ref u_GREATER), .val (.int (0 : Int32))] [])) _
    refine XS.iconst X1.here hx rfl (hb hby d20_110) ?_
    show Steps p.tables e below (T1.setTop (mkF m 111 #[.val (.ref u_GREATER), .val (.int (0 : Int32))] [(.int (0 : Int32))])) _
    refine XS.goto X1.here hx rfl (pc0 := 111) (pc' := 123) rfl (hb hby d20_111) (by decide) (by decide) ?_
    exact k
  obtain ⟨fs, hr, hrun, hended, hW, hsame⟩ := X1.leave (v := some (.int (0 : Int32))) (fun h => by rw [Bd.returns] at h; cases h)
  refine ⟨_, _, k2 _ ?_, hrun, hended, _, _, rfl, ?_, ⟨_, rfl⟩, hW, hsame.mono (by decide) (by decide)⟩
  · exact retN X1 hx (t := .boolean) Bd.returns (by simp) (hb hby d20_123) hr
  · show Q20 Z u_GREATER h0 n0 _ T1.heap _
    rw [eh1]
    exact ⟨rfl, N1, rfl⟩
theorem d21_0 : decode jdk_37_method_2_code 0 = .ok (.aload_n 0, 1) := by decide +kernel
theorem d21_1 : decode jdk_37_method_2_code 1 = .ok (.getfield 7, 3) := by decide +kernel
theorem d21_4 : decode jdk_37_method_2_code 4 = .ok (.ireturn, 1) := by decide +kernel
theorem ef_21 (m : MethodId) (a21_0 : Addr) : entryFrame m #[(.ref a21_0)] 1 = mkF m 0 #[.val (.ref a21_0)] [] := by first | (simp [entryFrame, mkF, argsToLocals, Value.category]; done) | rfl
def Q21 (Z : State) (a21_0 : Addr) (h0 : Heap) (n0 : Nat) (v : Option Value) (h : Heap) (L : List Loc) : Prop := v = some (.int (5 : Int32)) ∧ Fr n0 L ∧ h = h0
set_option maxRecDepth 65536 in
set_option maxHeartbeats 40000000 in
theorem rm21 (l : Launch) (Z : State) (a0 : Array Value) (hw : ∀ d ∈ tables_1, d.before a0 Z = true) (ws : List Jvm.Cond) (a21_0 : Addr) (h0 : Heap) (n0 : Nat) (Z0 : n0 ≤ h0.size) (Fo : Fld Z h0 a21_0 "java/lang/Enum" "ordinal" "I" (.int (5 : Int32))) :
    MetFree l (⟨"java/lang/Enum", "ordinal", "()I"⟩ : MethodName) (head1 (Jvm.Cond.code (⟨"java/lang/Enum", "ordinal", "()I"⟩ : MethodName) jdk_37_method_2_code 1 (some .int) :: ws) ({ frames := 0, cells := 0, slots := 0, locals := 0 } : Room)) (fun a U => a = #[(.ref a21_0)] ∧ Z.Warmed39 U.vm ∧ U.heap = h0) (fun _ _ _ _ _ => True) (fun _ U o U' => ∃ v L, o = .returned v ∧ Q21 Z a21_0 h0 n0 v U'.heap L ∧ FrameEnd U o U' L ({ frames := 0, cells := 0, slots := 0, locals := 0 } : Room).cells ({ frames := 0, cells := 0, slots := 0, locals := 0 } : Room).slots) := by
  refine MetFree.of_bodySF (plainFor_of_name pn_0) hisR ?_
  intro p e s m args below meth c s₁ Bd hml0 hP hK
  obtain ⟨rfl, hZ, hh⟩ := hP
  have hx := Bd.exec
  have hby := Bd.bytes
  have hml : c.maxLocals = 1 := hml0
  have hown : s.vm.findClass "java/lang/Enum" = some m.cls := findClass_of_methodNamed Bd.named
  have hnm := (name_of_methodNamed Bd.named Bd.method).1
  have X0 : Stand p l e ({ frames := 0, cells := 0, slots := 0, locals := 0 } : Room) s m #[(.ref a21_0)] below meth c s₁ [] 0 0 := Stand.of_body Bd
  have e0 : s₁.heap = h0 := by rw [← hh, Bd.state]; rfl
  have N0 := Fr.nil n0
  have pre0 : ∀ t, Steps p.tables e below (s₁.setTop (mkF m 0 #[.val (.ref a21_0)] [])) t → Steps p.tables e below (s₁.setTop (entryFrame m #[(.ref a21_0)] 1)) t := fun t k => castTop (ef_21 m a21_0) k
  obtain ⟨T1, X1, e1, st1⟩ := getF X0 hx hZ hown (host := "") (Or.inl (hw _ (List.mem_of_getElem? (i := 43) rfl))) Via.refl e0 Fo (g := (mkF m 1 #[.val (.ref a21_0)] [(.ref a21_0)])) rfl rfl (hb hby d21_1)
  have k2 : ∀ t, Steps p.tables e below (T1.setTop (mkF m 4 #[.val (.ref a21_0)] [(.int (5 : Int32))])) t → Steps p.tables e below (s₁.setTop (entryFrame m #[(.ref a21_0)] 1)) t := by
    intro t k
    refine pre0 t ?_
    show Steps p.tables e below (s₁.setTop (mkF m 0 #[.val (.ref a21_0)] [])) _
    refine XS.aloadN X0.here hx rfl (hb hby d21_0) rfl rfl ?_
    show Steps p.tables e below (s₁.setTop (mkF m 1 #[.val (.ref a21_0)] [(.ref a21_0)])) _
    refine st1 _ ?_
    exact k
  obtain ⟨fs, hr, hrun, hended, hW, hsame⟩ := X1.leave (v := some (.int (5 : Int32))) (fun h => by rw [Bd.returns] at h; cases h)
  refine ⟨_, _, k2 _ ?_, hrun, hended, _, _, rfl, ?_, ⟨_, rfl⟩, hW, hsame.mono (by decide) (by decide)⟩
  · exact retI X1 hx Bd.returns (hb hby d21_4) hr
  · show Q21 Z a21_0 h0 n0 _ T1.heap _
    rw [e1]
    exact ⟨rfl, N0, rfl⟩
theorem d22_0 : decode prog_4_method_6_code 0 = .ok (.aload_n 0, 1) := by decide +kernel
theorem d22_1 : decode prog_4_method_6_code 1 = .ok (.getstatic 3, 3) := by decide +kernel
theorem d22_4 : decode prog_4_method_6_code 4 = .ok (.if_acmp .eq 14, 3) := by decide +kernel
theorem d22_7 : decode prog_4_method_6_code 7 = .ok (.aload_n 0, 1) := by decide +kernel
theorem d22_8 : decode prog_4_method_6_code 8 = .ok (.getstatic 7, 3) := by decide +kernel
theorem d22_11 : decode prog_4_method_6_code 11 = .ok (.if_acmp .eq 7, 3) := by decide +kernel
theorem d22_14 : decode prog_4_method_6_code 14 = .ok (.iconst 1, 1) := by decide +kernel
theorem d22_15 : decode prog_4_method_6_code 15 = .ok (.goto 4, 3) := by decide +kernel
theorem d22_19 : decode prog_4_method_6_code 19 = .ok (.ireturn, 1) := by decide +kernel
theorem ef_22 (m : MethodId) (u_GREATER_EQUAL : Addr) : entryFrame m #[(.ref u_GREATER_EQUAL)] 1 = mkF m 0 #[.val (.ref u_GREATER_EQUAL)] [] := by first | (simp [entryFrame, mkF, argsToLocals, Value.category]; done) | rfl
def Q22 (Z : State) (u_GREATER_EQUAL : Addr) (u_EQUAL : Addr) (u_NOT_EQUAL : Addr) (h0 : Heap) (n0 : Nat) (v : Option Value) (h : Heap) (L : List Loc) : Prop := v = some (.int (1 : Int32)) ∧ Fr n0 L ∧ h = h0
set_option maxRecDepth 65536 in
set_option maxHeartbeats 40000000 in
theorem rm22 (l : Launch) (Z : State) (a0 : Array Value) (hw : ∀ d ∈ tables_1, d.before a0 Z = true) (ws : List Jvm.Cond) (u_GREATER_EQUAL : Addr) (u_EQUAL : Addr) (u_NOT_EQUAL : Addr) (h0 : Heap) (n0 : Nat) (Z0 : n0 ≤ h0.size) (S_EQUAL : Sta Z h0 "com/example/chop/chop/model/Relation" "EQUAL" "Lcom/example/chop/chop/model/Relation;" (.ref u_EQUAL)) (S_NOT_EQUAL : Sta Z h0 "com/example/chop/chop/model/Relation" "NOT_EQUAL" "Lcom/example/chop/chop/model/Relation;" (.ref u_NOT_EQUAL)) (hne_EQUAL : u_GREATER_EQUAL ≠ u_EQUAL) (hne_NOT_EQUAL : u_GREATER_EQUAL ≠ u_NOT_EQUAL) :
    MetFree l (⟨"com/example/chop/chop/model/Relation", "isBound", "()Z"⟩ : MethodName) (head1 (Jvm.Cond.code (⟨"com/example/chop/chop/model/Relation", "isBound", "()Z"⟩ : MethodName) prog_4_method_6_code 1 (some .boolean) :: ws) ({ frames := 0, cells := 0, slots := 0, locals := 0 } : Room)) (fun a U => a = #[(.ref u_GREATER_EQUAL)] ∧ Z.Warmed39 U.vm ∧ U.heap = h0) (fun _ _ _ _ _ => True) (fun _ U o U' => ∃ v L, o = .returned v ∧ Q22 Z u_GREATER_EQUAL u_EQUAL u_NOT_EQUAL h0 n0 v U'.heap L ∧ FrameEnd U o U' L ({ frames := 0, cells := 0, slots := 0, locals := 0 } : Room).cells ({ frames := 0, cells := 0, slots := 0, locals := 0 } : Room).slots) := by
  refine MetFree.of_bodySF (plainFor_of_name pn_1) hisR ?_
  intro p e s m args below meth c s₁ Bd hml0 hP hK
  obtain ⟨rfl, hZ, hh⟩ := hP
  have hx := Bd.exec
  have hby := Bd.bytes
  have hml : c.maxLocals = 1 := hml0
  have hown : s.vm.findClass "com/example/chop/chop/model/Relation" = some m.cls := findClass_of_methodNamed Bd.named
  have hnm := (name_of_methodNamed Bd.named Bd.method).1
  have X0 : Stand p l e ({ frames := 0, cells := 0, slots := 0, locals := 0 } : Room) s m #[(.ref u_GREATER_EQUAL)] below meth c s₁ [] 0 0 := Stand.of_body Bd
  have e0 : s₁.heap = h0 := by rw [← hh, Bd.state]; rfl
  have N0 := Fr.nil n0
  have pre0 : ∀ t, Steps p.tables e below (s₁.setTop (mkF m 0 #[.val (.ref u_GREATER_EQUAL)] [])) t → Steps p.tables e below (s₁.setTop (entryFrame m #[(.ref u_GREATER_EQUAL)] 1)) t := fun t k => castTop (ef_22 m u_GREATER_EQUAL) k
  obtain ⟨T1, X1, e1, st1⟩ := getS2 X0 hx hZ hown (host := "") (Or.inl (hw _ (List.mem_of_getElem? (i := 29) rfl))) Via.refl e0 S_EQUAL (g := (mkF m 1 #[.val (.ref u_GREATER_EQUAL)] [(.ref u_GREATER_EQUAL)])) rfl (hb hby d22_1)
  obtain ⟨T2, X2, e2, st2⟩ := getS2 X1 hx hZ hown (host := "") (Or.inl (hw _ (List.mem_of_getElem? (i := 30) rfl))) Via.refl e1 S_NOT_EQUAL (g := (mkF m 8 #[.val (.ref u_GREATER_EQUAL)] [(.ref u_GREATER_EQUAL)])) rfl (hb hby d22_8)
  have k3 : ∀ t, Steps p.tables e below (T2.setTop (mkF m 19 #[.val (.ref u_GREATER_EQUAL)] [(.int (1 : Int32))])) t → Steps p.tables e below (s₁.setTop (entryFrame m #[(.ref u_GREATER_EQUAL)] 1)) t := by
    intro t k
    refine pre0 t ?_
    show Steps p.tables e below (s₁.setTop (mkF m 0 #[.val (.ref u_GREATER_EQUAL)] [])) _
    refine XS.aloadN X0.here hx rfl (hb hby d22_0) rfl rfl ?_
    show Steps p.tables e below (s₁.setTop (mkF m 1 #[.val (.ref u_GREATER_EQUAL)] [(.ref u_GREATER_EQUAL)])) _
    refine st1 _ ?_
    show Steps p.tables e below (T1.setTop (mkF m 4 #[.val (.ref u_GREATER_EQUAL)] [(.ref u_EQUAL), (.ref u_GREATER_EQUAL)])) _
    refine Jvm.RoadKit.acmp (g := (mkF m 4 #[.val (.ref u_GREATER_EQUAL)] [(.ref u_EQUAL), (.ref u_GREATER_EQUAL)])) X1 hx rfl rfl rfl (pc0 := 4) (pc' := 7) (same := false) rfl (hb hby d22_4) rfl (decide_eq_false fun q => hne_EQUAL (Value.ref.inj q)) (by decide) (by decide) ?_
    show Steps p.tables e below (T1.setTop (mkF m 7 #[.val (.ref u_GREATER_EQUAL)] [])) _
    refine XS.aloadN X1.here hx rfl (hb hby d22_7) rfl rfl ?_
    show Steps p.tables e below (T1.setTop (mkF m 8 #[.val (.ref u_GREATER_EQUAL)] [(.ref u_GREATER_EQUAL)])) _
    refine st2 _ ?_
    show Steps p.tables e below (T2.setTop (mkF m 11 #[.val (.ref u_GREATER_EQUAL)] [(.ref u_NOT_EQUAL), (.ref u_GREATER_EQUAL)])) _
    refine Jvm.RoadKit.acmp (g := (mkF m 11 #[.val (.ref u_GREATER_EQUAL)] [(.ref u_NOT_EQUAL), (.ref u_GREATER_EQUAL)])) X2 hx rfl rfl rfl (pc0 := 11) (pc' := 14) (same := false) rfl (hb hby d22_11) rfl (decide_eq_false fun q => hne_NOT_EQUAL (Value.ref.inj q)) (by decide) (by decide) ?_
    show Steps p.tables e below (T2.setTop (mkF m 14 #[.val (.ref u_GREATER_EQUAL)] [])) _
    refine XS.iconst X2.here hx rfl (hb hby d22_14) ?_
    show Steps p.tables e below (T2.setTop (mkF m 15 #[.val (.ref u_GREATER_EQUAL)] [(.int (1 : Int32))])) _
    refine XS.goto X2.here hx rfl (pc0 := 15) (pc' := 19) rfl (hb hby d22_15) (by decide) (by decide) ?_
    exact k
  obtain ⟨fs, hr, hrun, hended, hW, hsame⟩ := X2.leave (v := some (.int (1 : Int32))) (fun h => by rw [Bd.returns] at h; cases h)
  refine ⟨_, _, k3 _ ?_, hrun, hended, _, _, rfl, ?_, ⟨_, rfl⟩, hW, hsame.mono (by decide) (by decide)⟩
  · exact retN X2 hx (t := .boolean) Bd.returns (by simp) (hb hby d22_19) hr
  · show Q22 Z u_GREATER_EQUAL u_EQUAL u_NOT_EQUAL h0 n0 _ T2.heap _
    rw [e2]
    exact ⟨rfl, N0, rfl⟩
theorem d23_0 : decode prog_4_method_8_code 0 = .ok (.aload_n 0, 1) := by decide +kernel
theorem d23_1 : decode prog_4_method_8_code 1 = .ok (.getstatic 10, 3) := by decide +kernel
theorem d23_4 : decode prog_4_method_8_code 4 = .ok (.if_acmp .eq 10, 3) := by decide +kernel
theorem d23_7 : decode prog_4_method_8_code 7 = .ok (.aload_n 0, 1) := by decide +kernel
theorem d23_8 : decode prog_4_method_8_code 8 = .ok (.getstatic 16, 3) := by decide +kernel
theorem d23_11 : decode prog_4_method_8_code 11 = .ok (.if_acmp .ne 7, 3) := by decide +kernel
theorem d23_18 : decode prog_4_method_8_code 18 = .ok (.iconst 0, 1) := by decide +kernel
theorem d23_19 : decode prog_4_method_8_code 19 = .ok (.ireturn, 1) := by decide +kernel
theorem ef_23 (m : MethodId) (u_GREATER_EQUAL : Addr) : entryFrame m #[(.ref u_GREATER_EQUAL)] 1 = mkF m 0 #[.val (.ref u_GREATER_EQUAL)] [] := by first | (simp [entryFrame, mkF, argsToLocals, Value.category]; done) | rfl
def Q23 (Z : State) (u_GREATER_EQUAL : Addr) (u_LESS : Addr) (u_GREATER : Addr) (h0 : Heap) (n0 : Nat) (v : Option Value) (h : Heap) (L : List Loc) : Prop := v = some (.int (0 : Int32)) ∧ Fr n0 L ∧ h = h0
set_option maxRecDepth 65536 in
set_option maxHeartbeats 40000000 in
theorem rm23 (l : Launch) (Z : State) (a0 : Array Value) (hw : ∀ d ∈ tables_1, d.before a0 Z = true) (ws : List Jvm.Cond) (u_GREATER_EQUAL : Addr) (u_LESS : Addr) (u_GREATER : Addr) (h0 : Heap) (n0 : Nat) (Z0 : n0 ≤ h0.size) (S_LESS : Sta Z h0 "com/example/chop/chop/model/Relation" "LESS" "Lcom/example/chop/chop/model/Relation;" (.ref u_LESS)) (S_GREATER : Sta Z h0 "com/example/chop/chop/model/Relation" "GREATER" "Lcom/example/chop/chop/model/Relation;" (.ref u_GREATER)) (hne_LESS : u_GREATER_EQUAL ≠ u_LESS) (hne_GREATER : u_GREATER_EQUAL ≠ u_GREATER) :
    MetFree l (⟨"com/example/chop/chop/model/Relation", "isStrict", "()Z"⟩ : MethodName) (head1 (Jvm.Cond.code (⟨"com/example/chop/chop/model/Relation", "isStrict", "()Z"⟩ : MethodName) prog_4_method_8_code 1 (some .boolean) :: ws) ({ frames := 0, cells := 0, slots := 0, locals := 0 } : Room)) (fun a U => a = #[(.ref u_GREATER_EQUAL)] ∧ Z.Warmed39 U.vm ∧ U.heap = h0) (fun _ _ _ _ _ => True) (fun _ U o U' => ∃ v L, o = .returned v ∧ Q23 Z u_GREATER_EQUAL u_LESS u_GREATER h0 n0 v U'.heap L ∧ FrameEnd U o U' L ({ frames := 0, cells := 0, slots := 0, locals := 0 } : Room).cells ({ frames := 0, cells := 0, slots := 0, locals := 0 } : Room).slots) := by
  refine MetFree.of_bodySF (plainFor_of_name pn_1) hisR ?_
  intro p e s m args below meth c s₁ Bd hml0 hP hK
  obtain ⟨rfl, hZ, hh⟩ := hP
  have hx := Bd.exec
  have hby := Bd.bytes
  have hml : c.maxLocals = 1 := hml0
  have hown : s.vm.findClass "com/example/chop/chop/model/Relation" = some m.cls := findClass_of_methodNamed Bd.named
  have hnm := (name_of_methodNamed Bd.named Bd.method).1
  have X0 : Stand p l e ({ frames := 0, cells := 0, slots := 0, locals := 0 } : Room) s m #[(.ref u_GREATER_EQUAL)] below meth c s₁ [] 0 0 := Stand.of_body Bd
  have e0 : s₁.heap = h0 := by rw [← hh, Bd.state]; rfl
  have N0 := Fr.nil n0
  have pre0 : ∀ t, Steps p.tables e below (s₁.setTop (mkF m 0 #[.val (.ref u_GREATER_EQUAL)] [])) t → Steps p.tables e below (s₁.setTop (entryFrame m #[(.ref u_GREATER_EQUAL)] 1)) t := fun t k => castTop (ef_23 m u_GREATER_EQUAL) k
  obtain ⟨T1, X1, e1, st1⟩ := getS2 X0 hx hZ hown (host := "") (Or.inl (hw _ (List.mem_of_getElem? (i := 22) rfl))) Via.refl e0 S_LESS (g := (mkF m 1 #[.val (.ref u_GREATER_EQUAL)] [(.ref u_GREATER_EQUAL)])) rfl (hb hby d23_1)
  obtain ⟨T2, X2, e2, st2⟩ := getS2 X1 hx hZ hown (host := "") (Or.inl (hw _ (List.mem_of_getElem? (i := 23) rfl))) Via.refl e1 S_GREATER (g := (mkF m 8 #[.val (.ref u_GREATER_EQUAL)] [(.ref u_GREATER_EQUAL)])) rfl (hb hby d23_8)
  have k3 : ∀ t, Steps p.tables e below (T2.setTop (mkF m 19 #[.val (.ref u_GREATER_EQUAL)] [(.int (0 : Int32))])) t → Steps p.tables e below (s₁.setTop (entryFrame m #[(.ref u_GREATER_EQUAL)] 1)) t := by
    intro t k
    refine pre0 t ?_
    show Steps p.tables e below (s₁.setTop (mkF m 0 #[.val (.ref u_GREATER_EQUAL)] [])) _
    refine XS.aloadN X0.here hx rfl (hb hby d23_0) rfl rfl ?_
    show Steps p.tables e below (s₁.setTop (mkF m 1 #[.val (.ref u_GREATER_EQUAL)] [(.ref u_GREATER_EQUAL)])) _
    refine st1 _ ?_
    show Steps p.tables e below (T1.setTop (mkF m 4 #[.val (.ref u_GREATER_EQUAL)] [(.ref u_LESS), (.ref u_GREATER_EQUAL)])) _
    refine Jvm.RoadKit.acmp (g := (mkF m 4 #[.val (.ref u_GREATER_EQUAL)] [(.ref u_LESS), (.ref u_GREATER_EQUAL)])) X1 hx rfl rfl rfl (pc0 := 4) (pc' := 7) (same := false) rfl (hb hby d23_4) rfl (decide_eq_false fun q => hne_LESS (Value.ref.inj q)) (by decide) (by decide) ?_
    show Steps p.tables e below (T1.setTop (mkF m 7 #[.val (.ref u_GREATER_EQUAL)] [])) _
    refine XS.aloadN X1.here hx rfl (hb hby d23_7) rfl rfl ?_
    show Steps p.tables e below (T1.setTop (mkF m 8 #[.val (.ref u_GREATER_EQUAL)] [(.ref u_GREATER_EQUAL)])) _
    refine st2 _ ?_
    show Steps p.tables e below (T2.setTop (mkF m 11 #[.val (.ref u_GREATER_EQUAL)] [(.ref u_GREATER), (.ref u_GREATER_EQUAL)])) _
    refine Jvm.RoadKit.acmp (g := (mkF m 11 #[.val (.ref u_GREATER_EQUAL)] [(.ref u_GREATER), (.ref u_GREATER_EQUAL)])) X2 hx rfl rfl rfl (pc0 := 11) (pc' := 18) (same := false) rfl (hb hby d23_11) rfl (decide_eq_false fun q => hne_GREATER (Value.ref.inj q)) (by decide) (by decide) ?_
    show Steps p.tables e below (T2.setTop (mkF m 18 #[.val (.ref u_GREATER_EQUAL)] [])) _
    refine XS.iconst X2.here hx rfl (hb hby d23_18) ?_
    exact k
  obtain ⟨fs, hr, hrun, hended, hW, hsame⟩ := X2.leave (v := some (.int (0 : Int32))) (fun h => by rw [Bd.returns] at h; cases h)
  refine ⟨_, _, k3 _ ?_, hrun, hended, _, _, rfl, ?_, ⟨_, rfl⟩, hW, hsame.mono (by decide) (by decide)⟩
  · exact retN X2 hx (t := .boolean) Bd.returns (by simp) (hb hby d23_19) hr
  · show Q23 Z u_GREATER_EQUAL u_LESS u_GREATER h0 n0 _ T2.heap _
    rw [e2]
    exact ⟨rfl, N0, rfl⟩
theorem d24_0 : decode prog_4_method_10_code 0 = .ok (.aload_n 0, 1) := by decide +kernel
theorem d24_1 : decode prog_4_method_10_code 1 = .ok (.invokevirtual 48, 3) := by decide +kernel
theorem d24_4 : decode prog_4_method_10_code 4 = .ok (.tableswitch 40 0 5 #[50, 62, 74, 86, 98, 110], 40) := by decide +kernel
theorem d24_114 : decode prog_4_method_10_code 114 = .ok (.iload_n 1, 1) := by decide +kernel
theorem d24_115 : decode prog_4_method_10_code 115 = .ok (.ifCond .lt 7, 3) := by decide +kernel
theorem d24_118 : decode prog_4_method_10_code 118 = .ok (.iconst 1, 1) := by decide +kernel
theorem d24_119 : decode prog_4_method_10_code 119 = .ok (.goto 4, 3) := by decide +kernel
theorem d24_123 : decode prog_4_method_10_code 123 = .ok (.ireturn, 1) := by decide +kernel
theorem ef_24 (m : MethodId) (u_GREATER_EQUAL : Addr) : entryFrame m #[(.ref u_GREATER_EQUAL), (.int (0 : Int32))] 2 = mkF m 0 #[.val (.ref u_GREATER_EQUAL), .val (.int (0 : Int32))] [] := by first | (simp [entryFrame, mkF, argsToLocals, Value.category]; done) | rfl
def Q24 (Z : State) (u_GREATER_EQUAL : Addr) (h0 : Heap) (n0 : Nat) (v : Option Value) (h : Heap) (L : List Loc) : Prop := v = some (.int (1 : Int32)) ∧ Fr n0 L ∧ h = h0
set_option maxRecDepth 65536 in
set_option maxHeartbeats 40000000 in
theorem rm24 (l : Launch) (Z : State) (a0 : Array Value) (hw : ∀ d ∈ tables_1, d.before a0 Z = true) (ws : List Jvm.Cond) (u_GREATER_EQUAL : Addr) (h0 : Heap) (n0 : Nat) (Z0 : n0 ≤ h0.size) (Ex : Exa Z h0 u_GREATER_EQUAL "com/example/chop/chop/model/Relation") (Fo : Fld Z h0 u_GREATER_EQUAL "java/lang/Enum" "ordinal" "I" (.int (5 : Int32))) :
    MetFree l (⟨"com/example/chop/chop/model/Relation", "holds", "(I)Z"⟩ : MethodName) (head1 (Jvm.Cond.code (⟨"com/example/chop/chop/model/Relation", "holds", "(I)Z"⟩ : MethodName) prog_4_method_10_code 2 (some .boolean) :: ws) ({ frames := 1, cells := 0, slots := 0, locals := 12 } : Room)) (fun a U => a = #[(.ref u_GREATER_EQUAL), (.int (0 : Int32))] ∧ Z.Warmed39 U.vm ∧ U.heap = h0) (fun _ _ _ _ _ => True) (fun _ U o U' => ∃ v L, o = .returned v ∧ Q24 Z u_GREATER_EQUAL h0 n0 v U'.heap L ∧ FrameEnd U o U' L ({ frames := 1, cells := 0, slots := 0, locals := 12 } : Room).cells ({ frames := 1, cells := 0, slots := 0, locals := 12 } : Room).slots) := by
  refine MetFree.of_bodySF (plainFor_of_name pn_1) hisR ?_
  intro p e s m args below meth c s₁ Bd hml0 hP hK
  obtain ⟨rfl, hZ, hh⟩ := hP
  have hx := Bd.exec
  have hby := Bd.bytes
  have hml : c.maxLocals = 2 := hml0
  have hown : s.vm.findClass "com/example/chop/chop/model/Relation" = some m.cls := findClass_of_methodNamed Bd.named
  have hnm := (name_of_methodNamed Bd.named Bd.method).1
  have X0 : Stand p l e ({ frames := 1, cells := 0, slots := 0, locals := 12 } : Room) s m #[(.ref u_GREATER_EQUAL), (.int (0 : Int32))] below meth c s₁ [] 0 0 := Stand.of_body Bd
  have e0 : s₁.heap = h0 := by rw [← hh, Bd.state]; rfl
  have N0 := Fr.nil n0
  have pre0 : ∀ t, Steps p.tables e below (s₁.setTop (mkF m 0 #[.val (.ref u_GREATER_EQUAL), .val (.int (0 : Int32))] [])) t → Steps p.tables e below (s₁.setTop (entryFrame m #[(.ref u_GREATER_EQUAL), (.int (0 : Int32))] 2)) t := fun t k => castTop (ef_24 m u_GREATER_EQUAL) k
  obtain ⟨cq1, kq1, q1a, q1b, q1c⟩ := isOf hZ e0 Ex
  obtain ⟨_, _, ⟨T1, L1, k1, n1⟩, -, X1, ⟨Lc1, hQ1, l1, y1, z1⟩, st1⟩ := X0.virtualBackUp hx (x := (⟨"com/example/chop/chop/model/Relation", "ordinal", "()I"⟩ : MethodName)) (y := (⟨"java/lang/Enum", "ordinal", "()I"⟩ : MethodName)) (owner := "java/lang/Enum") hown (mvT hZ (hw _ (List.mem_of_getElem? (i := 36) rfl))) (mvT hZ (hw _ (List.mem_of_getElem? (i := 37) rfl))) (mvT hZ (hw _ (List.mem_of_getElem? (i := 38) rfl))) (by decide) (mvT hZ (hw _ (List.mem_of_getElem? (i := 40) rfl))) (mvT hZ (hw _ (List.mem_of_getElem? (i := 39) rfl))) (backOf (W := 0) (rm21 l Z a0 hw [] u_GREATER_EQUAL h0 n0 Z0 Fo) hZ (hw _ (List.mem_of_getElem? (i := 42) rfl)) (hw _ (List.mem_of_getElem? (i := 41) rfl)) (by decide) (by decide)) q1a q1c (g := (mkF m 1 #[.val (.ref u_GREATER_EQUAL), .val (.int (0 : Int32))] [(.ref u_GREATER_EQUAL)])) rfl (by rw [hml]; rfl) (Steps.refl _) (argsL := []) (rest := []) (lenOf pd_0 rfl) rfl (by show 2 * 0 + _ ≤ _; exact Nat.le_of_eq rfl) (hb hby d24_1) (fun _ _ => ⟨rfl, e0, (by decide : 0 + 0 ≤ _), (by decide : 0 + 0 ≤ _)⟩)
  dsimp only [Pt.U, Pt.locs, Pt.cells, Pt.slots] at X1 l1 y1 z1 st1 hQ1
  subst l1 y1 z1
  obtain ⟨rfl, N1q, eh1⟩ := hQ1
  have N1 := Fr.app N0 N1q
  have k2 : ∀ t, Steps p.tables e below (T1.setTop (mkF m 123 #[.val (.ref u_GREATER_EQUAL), .val (.int (0 : Int32))] [(.int (1 : Int32))])) t → Steps p.tables e below (s₁.setTop (entryFrame m #[(.ref u_GREATER_EQUAL), (.int (0 : Int32))] 2)) t := by
    intro t k
    refine pre0 t ?_
    show Steps p.tables e below (s₁.setTop (mkF m 0 #[.val (.ref u_GREATER_EQUAL), .val (.int (0 : Int32))] [])) _
    refine XS.aloadN X0.here hx rfl (hb hby d24_0) rfl rfl ?_
    show Steps p.tables e below (s₁.setTop (mkF m 1 #[.val (.ref u_GREATER_EQUAL), .val (.int (0 : Int32))] [(.ref u_GREATER_EQUAL)])) _
    refine st1.trans ?_
    show Steps p.tables e below (T1.setTop (mkF m 4 #[.val (.ref u_GREATER_EQUAL), .val (.int (0 : Int32))] [(.int (5 : Int32))])) _
    refine XS.tswIn X1.here hx rfl (pc0 := 4) (pc' := 114) rfl (hb hby d24_4) rfl (by decide) rfl (by decide) (by decide) ?_
    show Steps p.tables e below (T1.setTop (mkF m 114 #[.val (.ref u_GREATER_EQUAL), .val (.int (0 : Int32))] [])) _
    refine XS.iloadN X1.here hx rfl (hb hby d24_114) rfl ?_
    show Steps p.tables e below (T1.setTop (mkF m 115 #[.val (.ref u_GREATER_EQUAL), .val (.int (0 : Int32))] [(.int (0 : Int32))])) _
    refine XS.ifNo X1.here hx rfl (hb hby d24_115) rfl ((if0 _ _).trans (flt (by decide : ¬ ((0 : Int32) < (0 : Int32)))).1) ?_
    show Steps p.tables e below (T1.setTop (mkF m 118 #[.val (.ref u_GREATER_EQUAL), .val (.int (0 : Int32))] [])) _
    refine XS.iconst X1.here hx rfl (hb hby d24_118) ?_
    show Steps p.tables e below (T1.setTop (mkF m 119 #[.val (.ref u_GREATER_EQUAL), .val (.int (0 : Int32))] [(.int (1 : Int32))])) _
    refine XS.goto X1.here hx rfl (pc0 := 119) (pc' := 123) rfl (hb hby d24_119) (by decide) (by decide) ?_
    exact k
  obtain ⟨fs, hr, hrun, hended, hW, hsame⟩ := X1.leave (v := some (.int (1 : Int32))) (fun h => by rw [Bd.returns] at h; cases h)
  refine ⟨_, _, k2 _ ?_, hrun, hended, _, _, rfl, ?_, ⟨_, rfl⟩, hW, hsame.mono (by decide) (by decide)⟩
  · exact retN X1 hx (t := .boolean) Bd.returns (by simp) (hb hby d24_123) hr
  · show Q24 Z u_GREATER_EQUAL h0 n0 _ T1.heap _
    rw [eh1]
    exact ⟨rfl, N1, rfl⟩
theorem pn_2 : plainName "com/example/chop/chop/model/RelationIsStrictPinLaw" = true := by first | (simp [plainName, overriddenIn]; done) | decide +kernel
theorem pd_1 : parseMethodDescriptor "()Z" = some ⟨[], some .boolean⟩ := by decide +kernel
theorem pd_2 : parseMethodDescriptor "(I)Z" = some ⟨[.int], some .boolean⟩ := by decide +kernel
theorem ef_0 (m : MethodId) (p0_0 : Int32) : entryFrame m #[(.int p0_0)] maxLocals = mkF m 0 #[.val (.int p0_0), .unset, .unset, .unset, .unset, .unset, .unset] [] := by first | (simp [entryFrame, mkF, argsToLocals, Value.category, maxLocals]; done) | rfl
def Q0 (Z : State) (p0_0 : Int32) (u_EQUAL : Addr) (u_NOT_EQUAL : Addr) (u_LESS : Addr) (u_LESS_EQUAL : Addr) (u_GREATER : Addr) (u_GREATER_EQUAL : Addr) (h0 : Heap) (n0 : Nat) (v : Option Value) (h : Heap) (L : List Loc) : Prop := v = some (.int (1 : Int32)) ∧ Fr n0 L
set_option maxRecDepth 65536 in
set_option maxHeartbeats 40000000 in
theorem rm0 (l : Launch) (Z : State) (a0 : Array Value) (hw : ∀ d ∈ tables_1, d.before a0 Z = true) (ws : List Jvm.Cond) (p0_0 : Int32) (u_EQUAL : Addr) (u_NOT_EQUAL : Addr) (u_LESS : Addr) (u_LESS_EQUAL : Addr) (u_GREATER : Addr) (u_GREATER_EQUAL : Addr) (h0 : Heap) (n0 : Nat) (Z0 : n0 ≤ h0.size) (S_EQUAL : Sta Z h0 "com/example/chop/chop/model/Relation" "EQUAL" "Lcom/example/chop/chop/model/Relation;" (.ref u_EQUAL)) (E_u_EQUAL : Exa Z h0 u_EQUAL "com/example/chop/chop/model/Relation") (S_NOT_EQUAL : Sta Z h0 "com/example/chop/chop/model/Relation" "NOT_EQUAL" "Lcom/example/chop/chop/model/Relation;" (.ref u_NOT_EQUAL)) (E_u_NOT_EQUAL : Exa Z h0 u_NOT_EQUAL "com/example/chop/chop/model/Relation") (S_LESS : Sta Z h0 "com/example/chop/chop/model/Relation" "LESS" "Lcom/example/chop/chop/model/Relation;" (.ref u_LESS)) (E_u_LESS : Exa Z h0 u_LESS "com/example/chop/chop/model/Relation") (S_LESS_EQUAL : Sta Z h0 "com/example/chop/chop/model/Relation" "LESS_EQUAL" "Lcom/example/chop/chop/model/Relation;" (.ref u_LESS_EQUAL)) (E_u_LESS_EQUAL : Exa Z h0 u_LESS_EQUAL "com/example/chop/chop/model/Relation") (S_GREATER : Sta Z h0 "com/example/chop/chop/model/Relation" "GREATER" "Lcom/example/chop/chop/model/Relation;" (.ref u_GREATER)) (E_u_GREATER : Exa Z h0 u_GREATER "com/example/chop/chop/model/Relation") (S_GREATER_EQUAL : Sta Z h0 "com/example/chop/chop/model/Relation" "GREATER_EQUAL" "Lcom/example/chop/chop/model/Relation;" (.ref u_GREATER_EQUAL)) (E_u_GREATER_EQUAL : Exa Z h0 u_GREATER_EQUAL "com/example/chop/chop/model/Relation") (F_u_EQUAL_ordinal : Fld Z h0 u_EQUAL "java/lang/Enum" "ordinal" "I" (.int (0 : Int32))) (F_u_LESS_ordinal : Fld Z h0 u_LESS "java/lang/Enum" "ordinal" "I" (.int (2 : Int32))) (F_u_GREATER_ordinal : Fld Z h0 u_GREATER "java/lang/Enum" "ordinal" "I" (.int (4 : Int32))) (F_u_LESS_EQUAL_ordinal : Fld Z h0 u_LESS_EQUAL "java/lang/Enum" "ordinal" "I" (.int (3 : Int32))) (F_u_NOT_EQUAL_ordinal : Fld Z h0 u_NOT_EQUAL "java/lang/Enum" "ordinal" "I" (.int (1 : Int32))) (F_u_GREATER_EQUAL_ordinal : Fld Z h0 u_GREATER_EQUAL "java/lang/Enum" "ordinal" "I" (.int (5 : Int32))) :
    MetFree l x (head1 (Jvm.Cond.code x code maxLocals ret :: ws) room_1) (fun a U => a = #[(.int p0_0)] ∧ Z.Warmed39 U.vm ∧ U.heap = h0) (fun _ _ _ _ _ => True) (fun _ U o U' => ∃ v L, o = .returned v ∧ Q0 Z p0_0 u_EQUAL u_NOT_EQUAL u_LESS u_LESS_EQUAL u_GREATER u_GREATER_EQUAL h0 n0 v U'.heap L ∧ FrameEnd U o U' L 16 128) := by
  refine MetFree.of_bodySF (plainFor_of_name pn_2) hisR ?_
  intro p e s m args below meth c s₁ Bd hml0 hP hK
  obtain ⟨rfl, hZ, hh⟩ := hP
  have hx := Bd.exec
  have hby := Bd.bytes
  have hml : c.maxLocals = 7 := hml0
  have hown : s.vm.findClass "com/example/chop/chop/model/RelationIsStrictPinLaw" = some m.cls := findClass_of_methodNamed Bd.named
  have hnm := (name_of_methodNamed Bd.named Bd.method).1
  have X0 : Stand p l e room_1 s m #[(.int p0_0)] below meth c s₁ [] 0 0 := Stand.of_body Bd
  have e0 : s₁.heap = h0 := by rw [← hh, Bd.state]; rfl
  have N0 := Fr.nil n0
  have pre0 : ∀ t, Steps p.tables e below (s₁.setTop (mkF m 0 #[.val (.int p0_0), .unset, .unset, .unset, .unset, .unset, .unset] [])) t → Steps p.tables e below (s₁.setTop (entryFrame m #[(.int p0_0)] maxLocals)) t := fun t k => castTop (ef_0 m p0_0) k
  have ne_EQUAL_NOT_EQUAL : u_EQUAL ≠ u_NOT_EQUAL := Fld.ne F_u_EQUAL_ordinal F_u_NOT_EQUAL_ordinal (by intro q; cases q)
  have ne_EQUAL_LESS : u_EQUAL ≠ u_LESS := Fld.ne F_u_EQUAL_ordinal F_u_LESS_ordinal (by intro q; cases q)
  have ne_EQUAL_LESS_EQUAL : u_EQUAL ≠ u_LESS_EQUAL := Fld.ne F_u_EQUAL_ordinal F_u_LESS_EQUAL_ordinal (by intro q; cases q)
  have ne_EQUAL_GREATER : u_EQUAL ≠ u_GREATER := Fld.ne F_u_EQUAL_ordinal F_u_GREATER_ordinal (by intro q; cases q)
  have ne_EQUAL_GREATER_EQUAL : u_EQUAL ≠ u_GREATER_EQUAL := Fld.ne F_u_EQUAL_ordinal F_u_GREATER_EQUAL_ordinal (by intro q; cases q)
  have ne_NOT_EQUAL_LESS : u_NOT_EQUAL ≠ u_LESS := Fld.ne F_u_NOT_EQUAL_ordinal F_u_LESS_ordinal (by intro q; cases q)
  have ne_NOT_EQUAL_LESS_EQUAL : u_NOT_EQUAL ≠ u_LESS_EQUAL := Fld.ne F_u_NOT_EQUAL_ordinal F_u_LESS_EQUAL_ordinal (by intro q; cases q)
  have ne_NOT_EQUAL_GREATER : u_NOT_EQUAL ≠ u_GREATER := Fld.ne F_u_NOT_EQUAL_ordinal F_u_GREATER_ordinal (by intro q; cases q)
  have ne_NOT_EQUAL_GREATER_EQUAL : u_NOT_EQUAL ≠ u_GREATER_EQUAL := Fld.ne F_u_NOT_EQUAL_ordinal F_u_GREATER_EQUAL_ordinal (by intro q; cases q)
  have ne_LESS_LESS_EQUAL : u_LESS ≠ u_LESS_EQUAL := Fld.ne F_u_LESS_ordinal F_u_LESS_EQUAL_ordinal (by intro q; cases q)
  have ne_LESS_GREATER : u_LESS ≠ u_GREATER := Fld.ne F_u_LESS_ordinal F_u_GREATER_ordinal (by intro q; cases q)
  have ne_LESS_GREATER_EQUAL : u_LESS ≠ u_GREATER_EQUAL := Fld.ne F_u_LESS_ordinal F_u_GREATER_EQUAL_ordinal (by intro q; cases q)
  have ne_LESS_EQUAL_GREATER : u_LESS_EQUAL ≠ u_GREATER := Fld.ne F_u_LESS_EQUAL_ordinal F_u_GREATER_ordinal (by intro q; cases q)
  have ne_LESS_EQUAL_GREATER_EQUAL : u_LESS_EQUAL ≠ u_GREATER_EQUAL := Fld.ne F_u_LESS_EQUAL_ordinal F_u_GREATER_EQUAL_ordinal (by intro q; cases q)
  have ne_GREATER_GREATER_EQUAL : u_GREATER ≠ u_GREATER_EQUAL := Fld.ne F_u_GREATER_ordinal F_u_GREATER_EQUAL_ordinal (by intro q; cases q)
  obtain ⟨b1, g1⟩ : ∃ z, z = h0.size := ⟨_, rfl⟩
  obtain ⟨T1, h1, k1, X1, e1, E1, A1, O1, st1⟩ := newR X0 hx hZ hown (hw _ (List.mem_of_getElem? (i := 0) rfl)) (hw _ (List.mem_of_getElem? (i := 1) rfl)) e0 (g := (mkF m 2 #[.val (.int p0_0), .unset, .unset, .unset, .unset, .unset, .unset] [(.int (6 : Int32))])) rfl (hb hby at_2) rfl (by decide) (cap := 6) (by decide) (by decide) (by decide) (by decide)
  rw [← g1] at A1 st1
  have ne2 : u_EQUAL ≠ b1 := Nat.ne_of_lt (Nat.lt_of_lt_of_le E_u_EQUAL.lt (Nat.le_of_eq g1.symm))
  have ne3 : u_NOT_EQUAL ≠ b1 := Nat.ne_of_lt (Nat.lt_of_lt_of_le E_u_NOT_EQUAL.lt (Nat.le_of_eq g1.symm))
  have ne4 : u_LESS ≠ b1 := Nat.ne_of_lt (Nat.lt_of_lt_of_le E_u_LESS.lt (Nat.le_of_eq g1.symm))
  have ne5 : u_LESS_EQUAL ≠ b1 := Nat.ne_of_lt (Nat.lt_of_lt_of_le E_u_LESS_EQUAL.lt (Nat.le_of_eq g1.symm))
  have ne6 : u_GREATER ≠ b1 := Nat.ne_of_lt (Nat.lt_of_lt_of_le E_u_GREATER.lt (Nat.le_of_eq g1.symm))
  have ne7 : u_GREATER_EQUAL ≠ b1 := Nat.ne_of_lt (Nat.lt_of_lt_of_le E_u_GREATER_EQUAL.lt (Nat.le_of_eq g1.symm))
  have gg1 : n0 ≤ b1 := Nat.le_trans Z0 (Nat.le_of_eq g1.symm)
  have Zs1 : n0 ≤ h1.size := Nat.le_trans Z0 E1.1
  have F8 : Sta Z h1 "com/example/chop/chop/model/Relation" "EQUAL" "Lcom/example/chop/chop/model/Relation;" (.ref u_EQUAL) := S_EQUAL.ext E1
  have F9 : Exa Z h1 u_EQUAL "com/example/chop/chop/model/Relation" := E_u_EQUAL.ext E1
  have F10 : Sta Z h1 "com/example/chop/chop/model/Relation" "NOT_EQUAL" "Lcom/example/chop/chop/model/Relation;" (.ref u_NOT_EQUAL) := S_NOT_EQUAL.ext E1
  have F11 : Exa Z h1 u_NOT_EQUAL "com/example/chop/chop/model/Relation" := E_u_NOT_EQUAL.ext E1
  have F12 : Sta Z h1 "com/example/chop/chop/model/Relation" "LESS" "Lcom/example/chop/chop/model/Relation;" (.ref u_LESS) := S_LESS.ext E1
  have F13 : Exa Z h1 u_LESS "com/example/chop/chop/model/Relation" := E_u_LESS.ext E1
  have F14 : Sta Z h1 "com/example/chop/chop/model/Relation" "LESS_EQUAL" "Lcom/example/chop/chop/model/Relation;" (.ref u_LESS_EQUAL) := S_LESS_EQUAL.ext E1
  have F15 : Exa Z h1 u_LESS_EQUAL "com/example/chop/chop/model/Relation" := E_u_LESS_EQUAL.ext E1
  have F16 : Sta Z h1 "com/example/chop/chop/model/Relation" "GREATER" "Lcom/example/chop/chop/model/Relation;" (.ref u_GREATER) := S_GREATER.ext E1
  have F17 : Exa Z h1 u_GREATER "com/example/chop/chop/model/Relation" := E_u_GREATER.ext E1
  have F18 : Sta Z h1 "com/example/chop/chop/model/Relation" "GREATER_EQUAL" "Lcom/example/chop/chop/model/Relation;" (.ref u_GREATER_EQUAL) := S_GREATER_EQUAL.ext E1
  have F19 : Exa Z h1 u_GREATER_EQUAL "com/example/chop/chop/model/Relation" := E_u_GREATER_EQUAL.ext E1
  have F20 : Fld Z h1 u_EQUAL "java/lang/Enum" "ordinal" "I" (.int (0 : Int32)) := F_u_EQUAL_ordinal.ext E1
  have F21 : Fld Z h1 u_LESS "java/lang/Enum" "ordinal" "I" (.int (2 : Int32)) := F_u_LESS_ordinal.ext E1
  have F22 : Fld Z h1 u_GREATER "java/lang/Enum" "ordinal" "I" (.int (4 : Int32)) := F_u_GREATER_ordinal.ext E1
  have F23 : Fld Z h1 u_LESS_EQUAL "java/lang/Enum" "ordinal" "I" (.int (3 : Int32)) := F_u_LESS_EQUAL_ordinal.ext E1
  have F24 : Fld Z h1 u_NOT_EQUAL "java/lang/Enum" "ordinal" "I" (.int (1 : Int32)) := F_u_NOT_EQUAL_ordinal.ext E1
  have F25 : Fld Z h1 u_GREATER_EQUAL "java/lang/Enum" "ordinal" "I" (.int (5 : Int32)) := F_u_GREATER_EQUAL_ordinal.ext E1
  have V1 : Arv Z h1 b1 k1 (.object "com/example/chop/chop/model/Relation") (6 : Int32) [.null, .null, .null, .null, .null, .null] .null := (Arv.new A1 (by decide)).pad (pad_rep [] .null 6)
  obtain ⟨T26, X26, e26, st26⟩ := getS2 X1 hx hZ hown (host := "") (Or.inl (hw _ (List.mem_of_getElem? (i := 2) rfl))) Via.refl e1 F8 (g := (mkF m 7 #[.val (.int p0_0), .unset, .unset, .unset, .unset, .unset, .unset] [(.int (0 : Int32)), (.ref b1), (.ref b1)])) rfl (hb hby at_7)
  obtain ⟨cl27, Ar27, qc27, Sz27, Nn27, Hh27, Gg27⟩ := V1
  have hin27 : ¬ ((0 : Int32) < 0 ∨ cl27.slots.size ≤ ((0 : Int32)).toNatClampNeg) := inb_of Sz27 ⟨by decide, by decide⟩
  obtain ⟨T27, h27, X27, e27, W27, st27⟩ := stR X26 hx hZ e26 Ar27 (j := (0 : Int32)) hin27 rfl (Sto.ofV Ar27 qc27 O1 (Ins.self F9)) (g := (mkF m 10 #[.val (.int p0_0), .unset, .unset, .unset, .unset, .unset, .unset] [(.ref u_EQUAL), (.int (0 : Int32)), (.ref b1), (.ref b1)])) rfl rfl (hb hby at_10)
  have F28 : Sta Z h27 "com/example/chop/chop/model/Relation" "EQUAL" "Lcom/example/chop/chop/model/Relation;" (.ref u_EQUAL) := F8.wr W27
  have F29 : Exa Z h27 u_EQUAL "com/example/chop/chop/model/Relation" := F9.wr W27
  have F30 : Sta Z h27 "com/example/chop/chop/model/Relation" "NOT_EQUAL" "Lcom/example/chop/chop/model/Relation;" (.ref u_NOT_EQUAL) := F10.wr W27
  have F31 : Exa Z h27 u_NOT_EQUAL "com/example/chop/chop/model/Relation" := F11.wr W27
  have F32 : Sta Z h27 "com/example/chop/chop/model/Relation" "LESS" "Lcom/example/chop/chop/model/Relation;" (.ref u_LESS) := F12.wr W27
  have F33 : Exa Z h27 u_LESS "com/example/chop/chop/model/Relation" := F13.wr W27
  have F34 : Sta Z h27 "com/example/chop/chop/model/Relation" "LESS_EQUAL" "Lcom/example/chop/chop/model/Relation;" (.ref u_LESS_EQUAL) := F14.wr W27
  have F35 : Exa Z h27 u_LESS_EQUAL "com/example/chop/chop/model/Relation" := F15.wr W27
  have F36 : Sta Z h27 "com/example/chop/chop/model/Relation" "GREATER" "Lcom/example/chop/chop/model/Relation;" (.ref u_GREATER) := F16.wr W27
  have F37 : Exa Z h27 u_GREATER "com/example/chop/chop/model/Relation" := F17.wr W27
  have F38 : Sta Z h27 "com/example/chop/chop/model/Relation" "GREATER_EQUAL" "Lcom/example/chop/chop/model/Relation;" (.ref u_GREATER_EQUAL) := F18.wr W27
  have F39 : Exa Z h27 u_GREATER_EQUAL "com/example/chop/chop/model/Relation" := F19.wr W27
  have F40 : Fld Z h27 u_EQUAL "java/lang/Enum" "ordinal" "I" (.int (0 : Int32)) := F20.other W27 (Or.inl ne2)
  have F41 : Fld Z h27 u_LESS "java/lang/Enum" "ordinal" "I" (.int (2 : Int32)) := F21.other W27 (Or.inl ne4)
  have F42 : Fld Z h27 u_GREATER "java/lang/Enum" "ordinal" "I" (.int (4 : Int32)) := F22.other W27 (Or.inl ne6)
  have F43 : Fld Z h27 u_LESS_EQUAL "java/lang/Enum" "ordinal" "I" (.int (3 : Int32)) := F23.other W27 (Or.inl ne5)
  have F44 : Fld Z h27 u_NOT_EQUAL "java/lang/Enum" "ordinal" "I" (.int (1 : Int32)) := F24.other W27 (Or.inl ne3)
  have F45 : Fld Z h27 u_GREATER_EQUAL "java/lang/Enum" "ordinal" "I" (.int (5 : Int32)) := F25.other W27 (Or.inl ne7)
  have V27 : Arv Z h27 b1 k1 (.object "com/example/chop/chop/model/Relation") (6 : Int32) [(.ref u_EQUAL), .null, .null, .null, .null, .null] .null := Arv.set Ar27 qc27 Sz27 Nn27 Hh27 Gg27 rfl W27 0 rfl (Nat.le_of_ble_eq_true rfl)
  have N27 := Fr.snoc X27 N0 gg1
  have Zs27 : n0 ≤ h27.size := by rw [W27.size]; exact Zs1
  obtain ⟨T47, X47, e47, st47⟩ := getS2 X27 hx hZ hown (host := "") (Or.inl (hw _ (List.mem_of_getElem? (i := 6) rfl))) Via.refl e27 F30 (g := (mkF m 13 #[.val (.int p0_0), .unset, .unset, .unset, .unset, .unset, .unset] [(.int (1 : Int32)), (.ref b1), (.ref b1)])) rfl (hb hby at_13)
  obtain ⟨cl48, Ar48, qc48, Sz48, Nn48, Hh48, Gg48⟩ := V27
  have hin48 : ¬ ((1 : Int32) < 0 ∨ cl48.slots.size ≤ ((1 : Int32)).toNatClampNeg) := inb_of Sz48 ⟨by decide, by decide⟩
  obtain ⟨T48, h48, X48, e48, W48, st48⟩ := stR X47 hx hZ e47 Ar48 (j := (1 : Int32)) hin48 rfl (Sto.ofV Ar48 qc48 O1 (Ins.self F31)) (g := (mkF m 16 #[.val (.int p0_0), .unset, .unset, .unset, .unset, .unset, .unset] [(.ref u_NOT_EQUAL), (.int (1 : Int32)), (.ref b1), (.ref b1)])) rfl rfl (hb hby at_16)
  have F49 : Sta Z h48 "com/example/chop/chop/model/Relation" "EQUAL" "Lcom/example/chop/chop/model/Relation;" (.ref u_EQUAL) := F28.wr W48
  have F50 : Exa Z h48 u_EQUAL "com/example/chop/chop/model/Relation" := F29.wr W48
  have F51 : Sta Z h48 "com/example/chop/chop/model/Relation" "NOT_EQUAL" "Lcom/example/chop/chop/model/Relation;" (.ref u_NOT_EQUAL) := F30.wr W48
  have F52 : Exa Z h48 u_NOT_EQUAL "com/example/chop/chop/model/Relation" := F31.wr W48
  have F53 : Sta Z h48 "com/example/chop/chop/model/Relation" "LESS" "Lcom/example/chop/chop/model/Relation;" (.ref u_LESS) := F32.wr W48
  have F54 : Exa Z h48 u_LESS "com/example/chop/chop/model/Relation" := F33.wr W48
  have F55 : Sta Z h48 "com/example/chop/chop/model/Relation" "LESS_EQUAL" "Lcom/example/chop/chop/model/Relation;" (.ref u_LESS_EQUAL) := F34.wr W48
  have F56 : Exa Z h48 u_LESS_EQUAL "com/example/chop/chop/model/Relation" := F35.wr W48
  have F57 : Sta Z h48 "com/example/chop/chop/model/Relation" "GREATER" "Lcom/example/chop/chop/model/Relation;" (.ref u_GREATER) := F36.wr W48
  have F58 : Exa Z h48 u_GREATER "com/example/chop/chop/model/Relation" := F37.wr W48
  have F59 : Sta Z h48 "com/example/chop/chop/model/Relation" "GREATER_EQUAL" "Lcom/example/chop/chop/model/Relation;" (.ref u_GREATER_EQUAL) := F38.wr W48
  have F60 : Exa Z h48 u_GREATER_EQUAL "com/example/chop/chop/model/Relation" := F39.wr W48
  have F61 : Fld Z h48 u_EQUAL "java/lang/Enum" "ordinal" "I" (.int (0 : Int32)) := F40.other W48 (Or.inl ne2)
  have F62 : Fld Z h48 u_LESS "java/lang/Enum" "ordinal" "I" (.int (2 : Int32)) := F41.other W48 (Or.inl ne4)
  have F63 : Fld Z h48 u_GREATER "java/lang/Enum" "ordinal" "I" (.int (4 : Int32)) := F42.other W48 (Or.inl ne6)
  have F64 : Fld Z h48 u_LESS_EQUAL "java/lang/Enum" "ordinal" "I" (.int (3 : Int32)) := F43.other W48 (Or.inl ne5)
  have F65 : Fld Z h48 u_NOT_EQUAL "java/lang/Enum" "ordinal" "I" (.int (1 : Int32)) := F44.other W48 (Or.inl ne3)
  have F66 : Fld Z h48 u_GREATER_EQUAL "java/lang/Enum" "ordinal" "I" (.int (5 : Int32)) := F45.other W48 (Or.inl ne7)
  have V48 : Arv Z h48 b1 k1 (.object "com/example/chop/chop/model/Relation") (6 : Int32) [(.ref u_EQUAL), (.ref u_NOT_EQUAL), .null, .null, .null, .null] .null := Arv.set Ar48 qc48 Sz48 Nn48 Hh48 Gg48 rfl W48 1 rfl (Nat.le_of_ble_eq_true rfl)
  have N48 := Fr.snoc X48 N27 gg1
  have Zs48 : n0 ≤ h48.size := by rw [W48.size]; exact Zs27
  obtain ⟨T68, X68, e68, st68⟩ := getS2 X48 hx hZ hown (host := "") (Or.inl (hw _ (List.mem_of_getElem? (i := 8) rfl))) Via.refl e48 F53 (g := (mkF m 19 #[.val (.int p0_0), .unset, .unset, .unset, .unset, .unset, .unset] [(.int (2 : Int32)), (.ref b1), (.ref b1)])) rfl (hb hby at_19)
  obtain ⟨cl69, Ar69, qc69, Sz69, Nn69, Hh69, Gg69⟩ := V48
  have hin69 : ¬ ((2 : Int32) < 0 ∨ cl69.slots.size ≤ ((2 : Int32)).toNatClampNeg) := inb_of Sz69 ⟨by decide, by decide⟩
  obtain ⟨T69, h69, X69, e69, W69, st69⟩ := stR X68 hx hZ e68 Ar69 (j := (2 : Int32)) hin69 rfl (Sto.ofV Ar69 qc69 O1 (Ins.self F54)) (g := (mkF m 22 #[.val (.int p0_0), .unset, .unset, .unset, .unset, .unset, .unset] [(.ref u_LESS), (.int (2 : Int32)), (.ref b1), (.ref b1)])) rfl rfl (hb hby at_22)
  have F70 : Sta Z h69 "com/example/chop/chop/model/Relation" "EQUAL" "Lcom/example/chop/chop/model/Relation;" (.ref u_EQUAL) := F49.wr W69
  have F71 : Exa Z h69 u_EQUAL "com/example/chop/chop/model/Relation" := F50.wr W69
  have F72 : Sta Z h69 "com/example/chop/chop/model/Relation" "NOT_EQUAL" "Lcom/example/chop/chop/model/Relation;" (.ref u_NOT_EQUAL) := F51.wr W69
  have F73 : Exa Z h69 u_NOT_EQUAL "com/example/chop/chop/model/Relation" := F52.wr W69
  have F74 : Sta Z h69 "com/example/chop/chop/model/Relation" "LESS" "Lcom/example/chop/chop/model/Relation;" (.ref u_LESS) := F53.wr W69
  have F75 : Exa Z h69 u_LESS "com/example/chop/chop/model/Relation" := F54.wr W69
  have F76 : Sta Z h69 "com/example/chop/chop/model/Relation" "LESS_EQUAL" "Lcom/example/chop/chop/model/Relation;" (.ref u_LESS_EQUAL) := F55.wr W69
  have F77 : Exa Z h69 u_LESS_EQUAL "com/example/chop/chop/model/Relation" := F56.wr W69
  have F78 : Sta Z h69 "com/example/chop/chop/model/Relation" "GREATER" "Lcom/example/chop/chop/model/Relation;" (.ref u_GREATER) := F57.wr W69
  have F79 : Exa Z h69 u_GREATER "com/example/chop/chop/model/Relation" := F58.wr W69
  have F80 : Sta Z h69 "com/example/chop/chop/model/Relation" "GREATER_EQUAL" "Lcom/example/chop/chop/model/Relation;" (.ref u_GREATER_EQUAL) := F59.wr W69
  have F81 : Exa Z h69 u_GREATER_EQUAL "com/example/chop/chop/model/Relation" := F60.wr W69
  have F82 : Fld Z h69 u_EQUAL "java/lang/Enum" "ordinal" "I" (.int (0 : Int32)) := F61.other W69 (Or.inl ne2)
  have F83 : Fld Z h69 u_LESS "java/lang/Enum" "ordinal" "I" (.int (2 : Int32)) := F62.other W69 (Or.inl ne4)
  have F84 : Fld Z h69 u_GREATER "java/lang/Enum" "ordinal" "I" (.int (4 : Int32)) := F63.other W69 (Or.inl ne6)
  have F85 : Fld Z h69 u_LESS_EQUAL "java/lang/Enum" "ordinal" "I" (.int (3 : Int32)) := F64.other W69 (Or.inl ne5)
  have F86 : Fld Z h69 u_NOT_EQUAL "java/lang/Enum" "ordinal" "I" (.int (1 : Int32)) := F65.other W69 (Or.inl ne3)
  have F87 : Fld Z h69 u_GREATER_EQUAL "java/lang/Enum" "ordinal" "I" (.int (5 : Int32)) := F66.other W69 (Or.inl ne7)
  have V69 : Arv Z h69 b1 k1 (.object "com/example/chop/chop/model/Relation") (6 : Int32) [(.ref u_EQUAL), (.ref u_NOT_EQUAL), (.ref u_LESS), .null, .null, .null] .null := Arv.set Ar69 qc69 Sz69 Nn69 Hh69 Gg69 rfl W69 2 rfl (Nat.le_of_ble_eq_true rfl)
  have N69 := Fr.snoc X69 N48 gg1
  have Zs69 : n0 ≤ h69.size := by rw [W69.size]; exact Zs48
  obtain ⟨T89, X89, e89, st89⟩ := getS2 X69 hx hZ hown (host := "") (Or.inl (hw _ (List.mem_of_getElem? (i := 10) rfl))) Via.refl e69 F76 (g := (mkF m 25 #[.val (.int p0_0), .unset, .unset, .unset, .unset, .unset, .unset] [(.int (3 : Int32)), (.ref b1), (.ref b1)])) rfl (hb hby at_25)
  obtain ⟨cl90, Ar90, qc90, Sz90, Nn90, Hh90, Gg90⟩ := V69
  have hin90 : ¬ ((3 : Int32) < 0 ∨ cl90.slots.size ≤ ((3 : Int32)).toNatClampNeg) := inb_of Sz90 ⟨by decide, by decide⟩
  obtain ⟨T90, h90, X90, e90, W90, st90⟩ := stR X89 hx hZ e89 Ar90 (j := (3 : Int32)) hin90 rfl (Sto.ofV Ar90 qc90 O1 (Ins.self F77)) (g := (mkF m 28 #[.val (.int p0_0), .unset, .unset, .unset, .unset, .unset, .unset] [(.ref u_LESS_EQUAL), (.int (3 : Int32)), (.ref b1), (.ref b1)])) rfl rfl (hb hby at_28)
  have F91 : Sta Z h90 "com/example/chop/chop/model/Relation" "EQUAL" "Lcom/example/chop/chop/model/Relation;" (.ref u_EQUAL) := F70.wr W90
  have F92 : Exa Z h90 u_EQUAL "com/example/chop/chop/model/Relation" := F71.wr W90
  have F93 : Sta Z h90 "com/example/chop/chop/model/Relation" "NOT_EQUAL" "Lcom/example/chop/chop/model/Relation;" (.ref u_NOT_EQUAL) := F72.wr W90
  have F94 : Exa Z h90 u_NOT_EQUAL "com/example/chop/chop/model/Relation" := F73.wr W90
  have F95 : Sta Z h90 "com/example/chop/chop/model/Relation" "LESS" "Lcom/example/chop/chop/model/Relation;" (.ref u_LESS) := F74.wr W90
  have F96 : Exa Z h90 u_LESS "com/example/chop/chop/model/Relation" := F75.wr W90
  have F97 : Sta Z h90 "com/example/chop/chop/model/Relation" "LESS_EQUAL" "Lcom/example/chop/chop/model/Relation;" (.ref u_LESS_EQUAL) := F76.wr W90
  have F98 : Exa Z h90 u_LESS_EQUAL "com/example/chop/chop/model/Relation" := F77.wr W90
  have F99 : Sta Z h90 "com/example/chop/chop/model/Relation" "GREATER" "Lcom/example/chop/chop/model/Relation;" (.ref u_GREATER) := F78.wr W90
  have F100 : Exa Z h90 u_GREATER "com/example/chop/chop/model/Relation" := F79.wr W90
  have F101 : Sta Z h90 "com/example/chop/chop/model/Relation" "GREATER_EQUAL" "Lcom/example/chop/chop/model/Relation;" (.ref u_GREATER_EQUAL) := F80.wr W90
  have F102 : Exa Z h90 u_GREATER_EQUAL "com/example/chop/chop/model/Relation" := F81.wr W90
  have F103 : Fld Z h90 u_EQUAL "java/lang/Enum" "ordinal" "I" (.int (0 : Int32)) := F82.other W90 (Or.inl ne2)
  have F104 : Fld Z h90 u_LESS "java/lang/Enum" "ordinal" "I" (.int (2 : Int32)) := F83.other W90 (Or.inl ne4)
  have F105 : Fld Z h90 u_GREATER "java/lang/Enum" "ordinal" "I" (.int (4 : Int32)) := F84.other W90 (Or.inl ne6)
  have F106 : Fld Z h90 u_LESS_EQUAL "java/lang/Enum" "ordinal" "I" (.int (3 : Int32)) := F85.other W90 (Or.inl ne5)
  have F107 : Fld Z h90 u_NOT_EQUAL "java/lang/Enum" "ordinal" "I" (.int (1 : Int32)) := F86.other W90 (Or.inl ne3)
  have F108 : Fld Z h90 u_GREATER_EQUAL "java/lang/Enum" "ordinal" "I" (.int (5 : Int32)) := F87.other W90 (Or.inl ne7)
  have V90 : Arv Z h90 b1 k1 (.object "com/example/chop/chop/model/Relation") (6 : Int32) [(.ref u_EQUAL), (.ref u_NOT_EQUAL), (.ref u_LESS), (.ref u_LESS_EQUAL), .null, .null] .null := Arv.set Ar90 qc90 Sz90 Nn90 Hh90 Gg90 rfl W90 3 rfl (Nat.le_of_ble_eq_true rfl)
  have N90 := Fr.snoc X90 N69 gg1
  have Zs90 : n0 ≤ h90.size := by rw [W90.size]; exact Zs69
  obtain ⟨T110, X110, e110, st110⟩ := getS2 X90 hx hZ hown (host := "") (Or.inl (hw _ (List.mem_of_getElem? (i := 12) rfl))) Via.refl e90 F99 (g := (mkF m 31 #[.val (.int p0_0), .unset, .unset, .unset, .unset, .unset, .unset] [(.int (4 : Int32)), (.ref b1), (.ref b1)])) rfl (hb hby at_31)
  obtain ⟨cl111, Ar111, qc111, Sz111, Nn111, Hh111, Gg111⟩ := V90
  have hin111 : ¬ ((4 : Int32) < 0 ∨ cl111.slots.size ≤ ((4 : Int32)).toNatClampNeg) := inb_of Sz111 ⟨by decide, by decide⟩
  obtain ⟨T111, h111, X111, e111, W111, st111⟩ := stR X110 hx hZ e110 Ar111 (j := (4 : Int32)) hin111 rfl (Sto.ofV Ar111 qc111 O1 (Ins.self F100)) (g := (mkF m 34 #[.val (.int p0_0), .unset, .unset, .unset, .unset, .unset, .unset] [(.ref u_GREATER), (.int (4 : Int32)), (.ref b1), (.ref b1)])) rfl rfl (hb hby at_34)
  have F112 : Sta Z h111 "com/example/chop/chop/model/Relation" "EQUAL" "Lcom/example/chop/chop/model/Relation;" (.ref u_EQUAL) := F91.wr W111
  have F113 : Exa Z h111 u_EQUAL "com/example/chop/chop/model/Relation" := F92.wr W111
  have F114 : Sta Z h111 "com/example/chop/chop/model/Relation" "NOT_EQUAL" "Lcom/example/chop/chop/model/Relation;" (.ref u_NOT_EQUAL) := F93.wr W111
  have F115 : Exa Z h111 u_NOT_EQUAL "com/example/chop/chop/model/Relation" := F94.wr W111
  have F116 : Sta Z h111 "com/example/chop/chop/model/Relation" "LESS" "Lcom/example/chop/chop/model/Relation;" (.ref u_LESS) := F95.wr W111
  have F117 : Exa Z h111 u_LESS "com/example/chop/chop/model/Relation" := F96.wr W111
  have F118 : Sta Z h111 "com/example/chop/chop/model/Relation" "LESS_EQUAL" "Lcom/example/chop/chop/model/Relation;" (.ref u_LESS_EQUAL) := F97.wr W111
  have F119 : Exa Z h111 u_LESS_EQUAL "com/example/chop/chop/model/Relation" := F98.wr W111
  have F120 : Sta Z h111 "com/example/chop/chop/model/Relation" "GREATER" "Lcom/example/chop/chop/model/Relation;" (.ref u_GREATER) := F99.wr W111
  have F121 : Exa Z h111 u_GREATER "com/example/chop/chop/model/Relation" := F100.wr W111
  have F122 : Sta Z h111 "com/example/chop/chop/model/Relation" "GREATER_EQUAL" "Lcom/example/chop/chop/model/Relation;" (.ref u_GREATER_EQUAL) := F101.wr W111
  have F123 : Exa Z h111 u_GREATER_EQUAL "com/example/chop/chop/model/Relation" := F102.wr W111
  have F124 : Fld Z h111 u_EQUAL "java/lang/Enum" "ordinal" "I" (.int (0 : Int32)) := F103.other W111 (Or.inl ne2)
  have F125 : Fld Z h111 u_LESS "java/lang/Enum" "ordinal" "I" (.int (2 : Int32)) := F104.other W111 (Or.inl ne4)
  have F126 : Fld Z h111 u_GREATER "java/lang/Enum" "ordinal" "I" (.int (4 : Int32)) := F105.other W111 (Or.inl ne6)
  have F127 : Fld Z h111 u_LESS_EQUAL "java/lang/Enum" "ordinal" "I" (.int (3 : Int32)) := F106.other W111 (Or.inl ne5)
  have F128 : Fld Z h111 u_NOT_EQUAL "java/lang/Enum" "ordinal" "I" (.int (1 : Int32)) := F107.other W111 (Or.inl ne3)
  have F129 : Fld Z h111 u_GREATER_EQUAL "java/lang/Enum" "ordinal" "I" (.int (5 : Int32)) := F108.other W111 (Or.inl ne7)
  have V111 : Arv Z h111 b1 k1 (.object "com/example/chop/chop/model/Relation") (6 : Int32) [(.ref u_EQUAL), (.ref u_NOT_EQUAL), (.ref u_LESS), (.ref u_LESS_EQUAL), (.ref u_GREATER), .null] .null := Arv.set Ar111 qc111 Sz111 Nn111 Hh111 Gg111 rfl W111 4 rfl (Nat.le_of_ble_eq_true rfl)
  have N111 := Fr.snoc X111 N90 gg1
  have Zs111 : n0 ≤ h111.size := by rw [W111.size]; exact Zs90
  obtain ⟨T131, X131, e131, st131⟩ := getS2 X111 hx hZ hown (host := "") (Or.inl (hw _ (List.mem_of_getElem? (i := 14) rfl))) Via.refl e111 F122 (g := (mkF m 37 #[.val (.int p0_0), .unset, .unset, .unset, .unset, .unset, .unset] [(.int (5 : Int32)), (.ref b1), (.ref b1)])) rfl (hb hby at_37)
  obtain ⟨cl132, Ar132, qc132, Sz132, Nn132, Hh132, Gg132⟩ := V111
  have hin132 : ¬ ((5 : Int32) < 0 ∨ cl132.slots.size ≤ ((5 : Int32)).toNatClampNeg) := inb_of Sz132 ⟨by decide, by decide⟩
  obtain ⟨T132, h132, X132, e132, W132, st132⟩ := stR X131 hx hZ e131 Ar132 (j := (5 : Int32)) hin132 rfl (Sto.ofV Ar132 qc132 O1 (Ins.self F123)) (g := (mkF m 40 #[.val (.int p0_0), .unset, .unset, .unset, .unset, .unset, .unset] [(.ref u_GREATER_EQUAL), (.int (5 : Int32)), (.ref b1), (.ref b1)])) rfl rfl (hb hby at_40)
  have F133 : Sta Z h132 "com/example/chop/chop/model/Relation" "EQUAL" "Lcom/example/chop/chop/model/Relation;" (.ref u_EQUAL) := F112.wr W132
  have F134 : Exa Z h132 u_EQUAL "com/example/chop/chop/model/Relation" := F113.wr W132
  have F135 : Sta Z h132 "com/example/chop/chop/model/Relation" "NOT_EQUAL" "Lcom/example/chop/chop/model/Relation;" (.ref u_NOT_EQUAL) := F114.wr W132
  have F136 : Exa Z h132 u_NOT_EQUAL "com/example/chop/chop/model/Relation" := F115.wr W132
  have F137 : Sta Z h132 "com/example/chop/chop/model/Relation" "LESS" "Lcom/example/chop/chop/model/Relation;" (.ref u_LESS) := F116.wr W132
  have F138 : Exa Z h132 u_LESS "com/example/chop/chop/model/Relation" := F117.wr W132
  have F139 : Sta Z h132 "com/example/chop/chop/model/Relation" "LESS_EQUAL" "Lcom/example/chop/chop/model/Relation;" (.ref u_LESS_EQUAL) := F118.wr W132
  have F140 : Exa Z h132 u_LESS_EQUAL "com/example/chop/chop/model/Relation" := F119.wr W132
  have F141 : Sta Z h132 "com/example/chop/chop/model/Relation" "GREATER" "Lcom/example/chop/chop/model/Relation;" (.ref u_GREATER) := F120.wr W132
  have F142 : Exa Z h132 u_GREATER "com/example/chop/chop/model/Relation" := F121.wr W132
  have F143 : Sta Z h132 "com/example/chop/chop/model/Relation" "GREATER_EQUAL" "Lcom/example/chop/chop/model/Relation;" (.ref u_GREATER_EQUAL) := F122.wr W132
  have F144 : Exa Z h132 u_GREATER_EQUAL "com/example/chop/chop/model/Relation" := F123.wr W132
  have F145 : Fld Z h132 u_EQUAL "java/lang/Enum" "ordinal" "I" (.int (0 : Int32)) := F124.other W132 (Or.inl ne2)
  have F146 : Fld Z h132 u_LESS "java/lang/Enum" "ordinal" "I" (.int (2 : Int32)) := F125.other W132 (Or.inl ne4)
  have F147 : Fld Z h132 u_GREATER "java/lang/Enum" "ordinal" "I" (.int (4 : Int32)) := F126.other W132 (Or.inl ne6)
  have F148 : Fld Z h132 u_LESS_EQUAL "java/lang/Enum" "ordinal" "I" (.int (3 : Int32)) := F127.other W132 (Or.inl ne5)
  have F149 : Fld Z h132 u_NOT_EQUAL "java/lang/Enum" "ordinal" "I" (.int (1 : Int32)) := F128.other W132 (Or.inl ne3)
  have F150 : Fld Z h132 u_GREATER_EQUAL "java/lang/Enum" "ordinal" "I" (.int (5 : Int32)) := F129.other W132 (Or.inl ne7)
  have V132 : Arv Z h132 b1 k1 (.object "com/example/chop/chop/model/Relation") (6 : Int32) [(.ref u_EQUAL), (.ref u_NOT_EQUAL), (.ref u_LESS), (.ref u_LESS_EQUAL), (.ref u_GREATER), (.ref u_GREATER_EQUAL)] .null := Arv.set Ar132 qc132 Sz132 Nn132 Hh132 Gg132 rfl W132 5 rfl (Nat.le_of_ble_eq_true rfl)
  have N132 := Fr.snoc X132 N111 gg1
  have Zs132 : n0 ≤ h132.size := by rw [W132.size]; exact Zs111
  have k152 : ∀ t, Steps p.tables e below (T132.setTop (mkF m 50 #[.val (.int p0_0), .val (.ref b1), .val (.int ((p0_0 &&& (2147483647 : Int32)) % (6 : Int32))), .unset, .unset, .unset, .unset] [])) t → Steps p.tables e below (s₁.setTop (entryFrame m #[(.int p0_0)] maxLocals)) t := by
    intro t k
    refine pre0 t ?_
    show Steps p.tables e below (s₁.setTop (mkF m 0 #[.val (.int p0_0), .unset, .unset, .unset, .unset, .unset, .unset] [])) _
    refine XS.bipush X0.here hx rfl (hb hby at_0) ?_
    show Steps p.tables e below (s₁.setTop (mkF m 2 #[.val (.int p0_0), .unset, .unset, .unset, .unset, .unset, .unset] [(.int (6 : Int32))])) _
    refine st1 _ ?_
    show Steps p.tables e below (T1.setTop (mkF m 5 #[.val (.int p0_0), .unset, .unset, .unset, .unset, .unset, .unset] [(.ref b1)])) _
    refine XS.dup X1.here hx rfl (hb hby at_5) rfl rfl ?_
    show Steps p.tables e below (T1.setTop (mkF m 6 #[.val (.int p0_0), .unset, .unset, .unset, .unset, .unset, .unset] [(.ref b1), (.ref b1)])) _
    refine XS.iconst X1.here hx rfl (hb hby at_6) ?_
    show Steps p.tables e below (T1.setTop (mkF m 7 #[.val (.int p0_0), .unset, .unset, .unset, .unset, .unset, .unset] [(.int (0 : Int32)), (.ref b1), (.ref b1)])) _
    refine st26 _ ?_
    show Steps p.tables e below (T26.setTop (mkF m 10 #[.val (.int p0_0), .unset, .unset, .unset, .unset, .unset, .unset] [(.ref u_EQUAL), (.int (0 : Int32)), (.ref b1), (.ref b1)])) _
    refine st27 _ ?_
    show Steps p.tables e below (T27.setTop (mkF m 11 #[.val (.int p0_0), .unset, .unset, .unset, .unset, .unset, .unset] [(.ref b1)])) _
    refine XS.dup X27.here hx rfl (hb hby at_11) rfl rfl ?_
    show Steps p.tables e below (T27.setTop (mkF m 12 #[.val (.int p0_0), .unset, .unset, .unset, .unset, .unset, .unset] [(.ref b1), (.ref b1)])) _
    refine XS.iconst X27.here hx rfl (hb hby at_12) ?_
    show Steps p.tables e below (T27.setTop (mkF m 13 #[.val (.int p0_0), .unset, .unset, .unset, .unset, .unset, .unset] [(.int (1 : Int32)), (.ref b1), (.ref b1)])) _
    refine st47 _ ?_
    show Steps p.tables e below (T47.setTop (mkF m 16 #[.val (.int p0_0), .unset, .unset, .unset, .unset, .unset, .unset] [(.ref u_NOT_EQUAL), (.int (1 : Int32)), (.ref b1), (.ref b1)])) _
    refine st48 _ ?_
    show Steps p.tables e below (T48.setTop (mkF m 17 #[.val (.int p0_0), .unset, .unset, .unset, .unset, .unset, .unset] [(.ref b1)])) _
    refine XS.dup X48.here hx rfl (hb hby at_17) rfl rfl ?_
    show Steps p.tables e below (T48.setTop (mkF m 18 #[.val (.int p0_0), .unset, .unset, .unset, .unset, .unset, .unset] [(.ref b1), (.ref b1)])) _
    refine XS.iconst X48.here hx rfl (hb hby at_18) ?_
    show Steps p.tables e below (T48.setTop (mkF m 19 #[.val (.int p0_0), .unset, .unset, .unset, .unset, .unset, .unset] [(.int (2 : Int32)), (.ref b1), (.ref b1)])) _
    refine st68 _ ?_
    show Steps p.tables e below (T68.setTop (mkF m 22 #[.val (.int p0_0), .unset, .unset, .unset, .unset, .unset, .unset] [(.ref u_LESS), (.int (2 : Int32)), (.ref b1), (.ref b1)])) _
    refine st69 _ ?_
    show Steps p.tables e below (T69.setTop (mkF m 23 #[.val (.int p0_0), .unset, .unset, .unset, .unset, .unset, .unset] [(.ref b1)])) _
    refine XS.dup X69.here hx rfl (hb hby at_23) rfl rfl ?_
    show Steps p.tables e below (T69.setTop (mkF m 24 #[.val (.int p0_0), .unset, .unset, .unset, .unset, .unset, .unset] [(.ref b1), (.ref b1)])) _
    refine XS.iconst X69.here hx rfl (hb hby at_24) ?_
    show Steps p.tables e below (T69.setTop (mkF m 25 #[.val (.int p0_0), .unset, .unset, .unset, .unset, .unset, .unset] [(.int (3 : Int32)), (.ref b1), (.ref b1)])) _
    refine st89 _ ?_
    show Steps p.tables e below (T89.setTop (mkF m 28 #[.val (.int p0_0), .unset, .unset, .unset, .unset, .unset, .unset] [(.ref u_LESS_EQUAL), (.int (3 : Int32)), (.ref b1), (.ref b1)])) _
    refine st90 _ ?_
    show Steps p.tables e below (T90.setTop (mkF m 29 #[.val (.int p0_0), .unset, .unset, .unset, .unset, .unset, .unset] [(.ref b1)])) _
    refine XS.dup X90.here hx rfl (hb hby at_29) rfl rfl ?_
    show Steps p.tables e below (T90.setTop (mkF m 30 #[.val (.int p0_0), .unset, .unset, .unset, .unset, .unset, .unset] [(.ref b1), (.ref b1)])) _
    refine XS.iconst X90.here hx rfl (hb hby at_30) ?_
    show Steps p.tables e below (T90.setTop (mkF m 31 #[.val (.int p0_0), .unset, .unset, .unset, .unset, .unset, .unset] [(.int (4 : Int32)), (.ref b1), (.ref b1)])) _
    refine st110 _ ?_
    show Steps p.tables e below (T110.setTop (mkF m 34 #[.val (.int p0_0), .unset, .unset, .unset, .unset, .unset, .unset] [(.ref u_GREATER), (.int (4 : Int32)), (.ref b1), (.ref b1)])) _
    refine st111 _ ?_
    show Steps p.tables e below (T111.setTop (mkF m 35 #[.val (.int p0_0), .unset, .unset, .unset, .unset, .unset, .unset] [(.ref b1)])) _
    refine XS.dup X111.here hx rfl (hb hby at_35) rfl rfl ?_
    show Steps p.tables e below (T111.setTop (mkF m 36 #[.val (.int p0_0), .unset, .unset, .unset, .unset, .unset, .unset] [(.ref b1), (.ref b1)])) _
    refine XS.iconst X111.here hx rfl (hb hby at_36) ?_
    show Steps p.tables e below (T111.setTop (mkF m 37 #[.val (.int p0_0), .unset, .unset, .unset, .unset, .unset, .unset] [(.int (5 : Int32)), (.ref b1), (.ref b1)])) _
    refine st131 _ ?_
    show Steps p.tables e below (T131.setTop (mkF m 40 #[.val (.int p0_0), .unset, .unset, .unset, .unset, .unset, .unset] [(.ref u_GREATER_EQUAL), (.int (5 : Int32)), (.ref b1), (.ref b1)])) _
    refine st132 _ ?_
    show Steps p.tables e below (T132.setTop (mkF m 41 #[.val (.int p0_0), .unset, .unset, .unset, .unset, .unset, .unset] [(.ref b1)])) _
    refine XS.astoreN X132.here hx rfl (hb hby at_41) rfl rfl (l' := #[.val (.int p0_0), .val (.ref b1), .unset, .unset, .unset, .unset, .unset]) rfl ?_
    show Steps p.tables e below (T132.setTop (mkF m 42 #[.val (.int p0_0), .val (.ref b1), .unset, .unset, .unset, .unset, .unset] [])) _
    refine XS.iloadN X132.here hx rfl (hb hby at_42) rfl ?_
    show Steps p.tables e below (T132.setTop (mkF m 43 #[.val (.int p0_0), .val (.ref b1), .unset, .unset, .unset, .unset, .unset] [(.int p0_0)])) _
    refine X132.ldcInt hx hown (mvT hZ (hw _ (List.mem_of_getElem? (i := 16) rfl))) (g := (mkF m 43 #[.val (.int p0_0), .val (.ref b1), .unset, .unset, .unset, .unset, .unset] [(.int p0_0)])) rfl (hb hby at_43) _ ?_
    show Steps p.tables e below (T132.setTop (mkF m 45 #[.val (.int p0_0), .val (.ref b1), .unset, .unset, .unset, .unset, .unset] [(.int (2147483647 : Int32)), (.int p0_0)])) _
    refine XS.iand X132.here hx rfl (hb hby at_45) rfl ?_
    show Steps p.tables e below (T132.setTop (mkF m 46 #[.val (.int p0_0), .val (.ref b1), .unset, .unset, .unset, .unset, .unset] [(.int (p0_0 &&& (2147483647 : Int32)))])) _
    refine XS.bipush X132.here hx rfl (hb hby at_46) ?_
    show Steps p.tables e below (T132.setTop (mkF m 48 #[.val (.int p0_0), .val (.ref b1), .unset, .unset, .unset, .unset, .unset] [(.int (6 : Int32)), (.int (p0_0 &&& (2147483647 : Int32)))])) _
    refine iremM X132 hx rfl (hb hby at_48) rfl (by decide) ?_
    show Steps p.tables e below (T132.setTop (mkF m 49 #[.val (.int p0_0), .val (.ref b1), .unset, .unset, .unset, .unset, .unset] [(.int ((p0_0 &&& (2147483647 : Int32)) % (6 : Int32)))])) _
    refine XS.istoreN X132.here hx rfl (hb hby at_49) rfl (l' := #[.val (.int p0_0), .val (.ref b1), .val (.int ((p0_0 &&& (2147483647 : Int32)) % (6 : Int32))), .unset, .unset, .unset, .unset]) rfl ?_
    exact k
  obtain ⟨z153, hz153⟩ : ∃ z, z = ((p0_0 &&& (2147483647 : Int32)) % (6 : Int32)) := ⟨_, rfl⟩
  rw [← hz153] at k152
  have hz153' : z153 = (0 : Int32) ∨ z153 = (1 : Int32) ∨ z153 = (2 : Int32) ∨ z153 = (3 : Int32) ∨ z153 = (4 : Int32) ∨ z153 = (5 : Int32) := by rw [hz153]; exact own_mod6 _
  rcases hz153' with rfl | rfl | rfl | rfl | rfl | rfl
  · skip
    obtain ⟨cl154, Ar154, qc154, Sz154, Nn154, Hh154, Gg154⟩ := V132
    have hin154 : ¬ ((0 : Int32) < 0 ∨ cl154.slots.size ≤ ((0 : Int32)).toNatClampNeg) := inb_of Sz154 ⟨by decide, by decide⟩
    obtain ⟨cq155, kq155, q155a, q155b, q155c⟩ := isOf hZ e132 F134
    obtain ⟨_, _, ⟨T155, L155, k155, n155⟩, -, X155, ⟨Lc155, hQ155, l155, y155, z155⟩, st155⟩ := X132.virtualBack hx (y := (⟨"com/example/chop/chop/model/Relation", "isStrict", "()Z"⟩ : MethodName)) (z := (⟨"com/example/chop/chop/model/Relation", "isStrict", "()Z"⟩ : MethodName)) hown (mvT hZ (hw _ (List.mem_of_getElem? (i := 17) rfl))) (mvT hZ (hw _ (List.mem_of_getElem? (i := 18) rfl))) (notFace_of_selects (args := #[]) (mvT hZ (hw _ (List.mem_of_getElem? (i := 20) rfl)))) (mvT hZ (hw _ (List.mem_of_getElem? (i := 20) rfl))) (mvT hZ (hw _ (List.mem_of_getElem? (i := 19) rfl))) (by decide) (backOf (W := 0) (rm3 l Z a0 hw [] u_EQUAL u_LESS u_GREATER h132 n0 Zs132 F137 F141 ne_EQUAL_LESS ne_EQUAL_GREATER) hZ (hw _ (List.mem_of_getElem? (i := 21) rfl)) (hw _ (List.mem_of_getElem? (i := 3) rfl)) (by decide) (by decide)) q155a q155c (g := (mkF m 72 #[.val (.int p0_0), .val (.ref b1), .val (.int (0 : Int32)), .val (.ref u_EQUAL), .val (.int (0 : Int32)), .unset, .unset] [(.ref u_EQUAL)])) rfl (by rw [hml]; rfl) (Steps.refl _) (argsL := []) (rest := []) (lenOf pd_1 rfl) rfl (by show 2 * 0 + _ ≤ _; exact Nat.le_of_eq rfl) (hb hby at_72) (fun _ _ => ⟨rfl, e132, (by decide : 1 + 0 ≤ _), (by decide : 6 + 0 ≤ _)⟩)
    dsimp only [Pt.U, Pt.locs, Pt.cells, Pt.slots] at X155 l155 y155 z155 st155 hQ155
    subst l155 y155 z155
    obtain ⟨rfl, N155q, eh155⟩ := hQ155
    have N155 := Fr.app N132 N155q
    obtain ⟨cq156, kq156, q156a, q156b, q156c⟩ := isOf hZ eh155 F134
    obtain ⟨_, _, ⟨T156, L156, k156, n156⟩, -, X156, ⟨Lc156, hQ156, l156, y156, z156⟩, st156⟩ := X155.virtualBack hx (y := (⟨"com/example/chop/chop/model/Relation", "isBound", "()Z"⟩ : MethodName)) (z := (⟨"com/example/chop/chop/model/Relation", "isBound", "()Z"⟩ : MethodName)) hown (mvT hZ (hw _ (List.mem_of_getElem? (i := 24) rfl))) (mvT hZ (hw _ (List.mem_of_getElem? (i := 25) rfl))) (notFace_of_selects (args := #[]) (mvT hZ (hw _ (List.mem_of_getElem? (i := 27) rfl)))) (mvT hZ (hw _ (List.mem_of_getElem? (i := 27) rfl))) (mvT hZ (hw _ (List.mem_of_getElem? (i := 26) rfl))) (by decide) (backOf (W := 0) (rm2 l Z a0 hw [] u_EQUAL h132 n0 Zs132 F133) hZ (hw _ (List.mem_of_getElem? (i := 28) rfl)) (hw _ (List.mem_of_getElem? (i := 3) rfl)) (by decide) (by decide)) q156a q156c (g := (mkF m 78 #[.val (.int p0_0), .val (.ref b1), .val (.int (0 : Int32)), .val (.ref u_EQUAL), .val (.int (0 : Int32)), .val (.int (0 : Int32)), .unset] [(.ref u_EQUAL)])) rfl (by rw [hml]; rfl) (Steps.refl _) (argsL := []) (rest := []) (lenOf pd_1 rfl) rfl (by show 2 * 0 + _ ≤ _; exact Nat.le_of_eq rfl) (hb hby at_78) (fun _ _ => ⟨rfl, eh155, (by decide : 1 + 0 ≤ _), (by decide : 6 + 0 ≤ _)⟩)
    dsimp only [Pt.U, Pt.locs, Pt.cells, Pt.slots] at X156 l156 y156 z156 st156 hQ156
    subst l156 y156 z156
    obtain ⟨rfl, N156q, eh156⟩ := hQ156
    have N156 := Fr.app N155 N156q
    have k157 : ∀ t, Steps p.tables e below (T156.setTop (mkF m 118 #[.val (.int p0_0), .val (.ref b1), .val (.int (0 : Int32)), .val (.ref u_EQUAL), .val (.int (0 : Int32)), .val (.int (0 : Int32)), .val (.int (0 : Int32))] [(.int (1 : Int32))])) t → Steps p.tables e below (s₁.setTop (entryFrame m #[(.int p0_0)] maxLocals)) t := by
      intro t k
      refine k152 t ?_
      show Steps p.tables e below (T132.setTop (mkF m 50 #[.val (.int p0_0), .val (.ref b1), .val (.int (0 : Int32)), .unset, .unset, .unset, .unset] [])) _
      refine XS.aloadN X132.here hx rfl (hb hby at_50) rfl rfl ?_
      show Steps p.tables e below (T132.setTop (mkF m 51 #[.val (.int p0_0), .val (.ref b1), .val (.int (0 : Int32)), .unset, .unset, .unset, .unset] [(.ref b1)])) _
      refine XS.iloadN X132.here hx rfl (hb hby at_51) rfl ?_
      show Steps p.tables e below (T132.setTop (mkF m 52 #[.val (.int p0_0), .val (.ref b1), .val (.int (0 : Int32)), .unset, .unset, .unset, .unset] [(.int (0 : Int32)), (.ref b1)])) _
      refine X132.aaload hx (j := (0 : Int32)) (v := (.ref u_EQUAL)) (by rw [e132]; exact Ar154.1) (State.isArrayOf_alike hZ.alike Ar154.2.1) rfl Ar154.2.2 hin154 (Hh154.at hin154 rfl) (g := (mkF m 52 #[.val (.int p0_0), .val (.ref b1), .val (.int (0 : Int32)), .unset, .unset, .unset, .unset] [(.int (0 : Int32)), (.ref b1)])) rfl rfl (hb hby at_52) _ ?_
      show Steps p.tables e below (T132.setTop (mkF m 53 #[.val (.int p0_0), .val (.ref b1), .val (.int (0 : Int32)), .unset, .unset, .unset, .unset] [(.ref u_EQUAL)])) _
      refine XS.astoreN X132.here hx rfl (hb hby at_53) rfl rfl (l' := #[.val (.int p0_0), .val (.ref b1), .val (.int (0 : Int32)), .val (.ref u_EQUAL), .unset, .unset, .unset]) rfl ?_
      show Steps p.tables e below (T132.setTop (mkF m 54 #[.val (.int p0_0), .val (.ref b1), .val (.int (0 : Int32)), .val (.ref u_EQUAL), .unset, .unset, .unset] [])) _
      refine XS.iloadN X132.here hx rfl (hb hby at_54) rfl ?_
      show Steps p.tables e below (T132.setTop (mkF m 55 #[.val (.int p0_0), .val (.ref b1), .val (.int (0 : Int32)), .val (.ref u_EQUAL), .unset, .unset, .unset] [(.int (0 : Int32))])) _
      refine XS.iconst X132.here hx rfl (hb hby at_55) ?_
      show Steps p.tables e below (T132.setTop (mkF m 56 #[.val (.int p0_0), .val (.ref b1), .val (.int (0 : Int32)), .val (.ref u_EQUAL), .unset, .unset, .unset] [(.int (2 : Int32)), (.int (0 : Int32))])) _
      refine XS.icmpNo X132.here hx rfl (hb hby at_56) rfl (feq (by decide : ¬ ((0 : Int32) = (2 : Int32)))).1 ?_
      show Steps p.tables e below (T132.setTop (mkF m 59 #[.val (.int p0_0), .val (.ref b1), .val (.int (0 : Int32)), .val (.ref u_EQUAL), .unset, .unset, .unset] [])) _
      refine XS.iloadN X132.here hx rfl (hb hby at_59) rfl ?_
      show Steps p.tables e below (T132.setTop (mkF m 60 #[.val (.int p0_0), .val (.ref b1), .val (.int (0 : Int32)), .val (.ref u_EQUAL), .unset, .unset, .unset] [(.int (0 : Int32))])) _
      refine XS.iconst X132.here hx rfl (hb hby at_60) ?_
      show Steps p.tables e below (T132.setTop (mkF m 61 #[.val (.int p0_0), .val (.ref b1), .val (.int (0 : Int32)), .val (.ref u_EQUAL), .unset, .unset, .unset] [(.int (4 : Int32)), (.int (0 : Int32))])) _
      refine XS.icmpYes X132.here hx rfl (pc0 := 61) (pc' := 68) rfl (hb hby at_61) rfl (feq (by decide : ¬ ((0 : Int32) = (4 : Int32)))).2 (by decide) (by decide) ?_
      show Steps p.tables e below (T132.setTop (mkF m 68 #[.val (.int p0_0), .val (.ref b1), .val (.int (0 : Int32)), .val (.ref u_EQUAL), .unset, .unset, .unset] [])) _
      refine XS.iconst X132.here hx rfl (hb hby at_68) ?_
      show Steps p.tables e below (T132.setTop (mkF m 69 #[.val (.int p0_0), .val (.ref b1), .val (.int (0 : Int32)), .val (.ref u_EQUAL), .unset, .unset, .unset] [(.int (0 : Int32))])) _
      refine XS.istore X132.here hx rfl (hb hby at_69) rfl (l' := #[.val (.int p0_0), .val (.ref b1), .val (.int (0 : Int32)), .val (.ref u_EQUAL), .val (.int (0 : Int32)), .unset, .unset]) rfl ?_
      show Steps p.tables e below (T132.setTop (mkF m 71 #[.val (.int p0_0), .val (.ref b1), .val (.int (0 : Int32)), .val (.ref u_EQUAL), .val (.int (0 : Int32)), .unset, .unset] [])) _
      refine XS.aloadN X132.here hx rfl (hb hby at_71) rfl rfl ?_
      show Steps p.tables e below (T132.setTop (mkF m 72 #[.val (.int p0_0), .val (.ref b1), .val (.int (0 : Int32)), .val (.ref u_EQUAL), .val (.int (0 : Int32)), .unset, .unset] [(.ref u_EQUAL)])) _
      refine st155.trans ?_
      show Steps p.tables e below (T155.setTop (mkF m 75 #[.val (.int p0_0), .val (.ref b1), .val (.int (0 : Int32)), .val (.ref u_EQUAL), .val (.int (0 : Int32)), .unset, .unset] [(.int (0 : Int32))])) _
      refine XS.istore X155.here hx rfl (hb hby at_75) rfl (l' := #[.val (.int p0_0), .val (.ref b1), .val (.int (0 : Int32)), .val (.ref u_EQUAL), .val (.int (0 : Int32)), .val (.int (0 : Int32)), .unset]) rfl ?_
      show Steps p.tables e below (T155.setTop (mkF m 77 #[.val (.int p0_0), .val (.ref b1), .val (.int (0 : Int32)), .val (.ref u_EQUAL), .val (.int (0 : Int32)), .val (.int (0 : Int32)), .unset] [])) _
      refine XS.aloadN X155.here hx rfl (hb hby at_77) rfl rfl ?_
      show Steps p.tables e below (T155.setTop (mkF m 78 #[.val (.int p0_0), .val (.ref b1), .val (.int (0 : Int32)), .val (.ref u_EQUAL), .val (.int (0 : Int32)), .val (.int (0 : Int32)), .unset] [(.ref u_EQUAL)])) _
      refine st156.trans ?_
      show Steps p.tables e below (T156.setTop (mkF m 81 #[.val (.int p0_0), .val (.ref b1), .val (.int (0 : Int32)), .val (.ref u_EQUAL), .val (.int (0 : Int32)), .val (.int (0 : Int32)), .unset] [(.int (0 : Int32))])) _
      refine XS.ifYes X156.here hx rfl (pc0 := 81) (pc' := 96) rfl (hb hby at_81) rfl ((if0 _ _).trans (teq (by decide : (0 : Int32) = (0 : Int32))).1) (by decide) (by decide) ?_
      show Steps p.tables e below (T156.setTop (mkF m 96 #[.val (.int p0_0), .val (.ref b1), .val (.int (0 : Int32)), .val (.ref u_EQUAL), .val (.int (0 : Int32)), .val (.int (0 : Int32)), .unset] [])) _
      refine XS.iconst X156.here hx rfl (hb hby at_96) ?_
      show Steps p.tables e below (T156.setTop (mkF m 97 #[.val (.int p0_0), .val (.ref b1), .val (.int (0 : Int32)), .val (.ref u_EQUAL), .val (.int (0 : Int32)), .val (.int (0 : Int32)), .unset] [(.int (0 : Int32))])) _
      refine XS.istore X156.here hx rfl (hb hby at_97) rfl (l' := #[.val (.int p0_0), .val (.ref b1), .val (.int (0 : Int32)), .val (.ref u_EQUAL), .val (.int (0 : Int32)), .val (.int (0 : Int32)), .val (.int (0 : Int32))]) rfl ?_
      show Steps p.tables e below (T156.setTop (mkF m 99 #[.val (.int p0_0), .val (.ref b1), .val (.int (0 : Int32)), .val (.ref u_EQUAL), .val (.int (0 : Int32)), .val (.int (0 : Int32)), .val (.int (0 : Int32))] [])) _
      refine XS.iload X156.here hx rfl (hb hby at_99) rfl ?_
      show Steps p.tables e below (T156.setTop (mkF m 101 #[.val (.int p0_0), .val (.ref b1), .val (.int (0 : Int32)), .val (.ref u_EQUAL), .val (.int (0 : Int32)), .val (.int (0 : Int32)), .val (.int (0 : Int32))] [(.int (0 : Int32))])) _
      refine XS.iload X156.here hx rfl (hb hby at_101) rfl ?_
      show Steps p.tables e below (T156.setTop (mkF m 103 #[.val (.int p0_0), .val (.ref b1), .val (.int (0 : Int32)), .val (.ref u_EQUAL), .val (.int (0 : Int32)), .val (.int (0 : Int32)), .val (.int (0 : Int32))] [(.int (0 : Int32)), (.int (0 : Int32))])) _
      refine XS.icmpNo X156.here hx rfl (hb hby at_103) rfl (teq (by decide : (0 : Int32) = (0 : Int32))).2 ?_
      show Steps p.tables e below (T156.setTop (mkF m 106 #[.val (.int p0_0), .val (.ref b1), .val (.int (0 : Int32)), .val (.ref u_EQUAL), .val (.int (0 : Int32)), .val (.int (0 : Int32)), .val (.int (0 : Int32))] [])) _
      refine XS.iload X156.here hx rfl (hb hby at_106) rfl ?_
      show Steps p.tables e below (T156.setTop (mkF m 108 #[.val (.int p0_0), .val (.ref b1), .val (.int (0 : Int32)), .val (.ref u_EQUAL), .val (.int (0 : Int32)), .val (.int (0 : Int32)), .val (.int (0 : Int32))] [(.int (0 : Int32))])) _
      refine XS.iload X156.here hx rfl (hb hby at_108) rfl ?_
      show Steps p.tables e below (T156.setTop (mkF m 110 #[.val (.int p0_0), .val (.ref b1), .val (.int (0 : Int32)), .val (.ref u_EQUAL), .val (.int (0 : Int32)), .val (.int (0 : Int32)), .val (.int (0 : Int32))] [(.int (0 : Int32)), (.int (0 : Int32))])) _
      refine XS.icmpNo X156.here hx rfl (hb hby at_110) rfl (teq (by decide : (0 : Int32) = (0 : Int32))).2 ?_
      show Steps p.tables e below (T156.setTop (mkF m 113 #[.val (.int p0_0), .val (.ref b1), .val (.int (0 : Int32)), .val (.ref u_EQUAL), .val (.int (0 : Int32)), .val (.int (0 : Int32)), .val (.int (0 : Int32))] [])) _
      refine XS.iconst X156.here hx rfl (hb hby at_113) ?_
      show Steps p.tables e below (T156.setTop (mkF m 114 #[.val (.int p0_0), .val (.ref b1), .val (.int (0 : Int32)), .val (.ref u_EQUAL), .val (.int (0 : Int32)), .val (.int (0 : Int32)), .val (.int (0 : Int32))] [(.int (1 : Int32))])) _
      refine XS.goto X156.here hx rfl (pc0 := 114) (pc' := 118) rfl (hb hby at_114) (by decide) (by decide) ?_
      exact k
    obtain ⟨fs, hr, hrun, hended, hW, hsame⟩ := X156.leave (v := some (.int (1 : Int32))) (fun h => by rw [Bd.returns] at h; cases h)
    refine ⟨_, _, k157 _ ?_, hrun, hended, _, _, rfl, ?_, ⟨_, rfl⟩, hW, hsame.mono (by decide) (by decide)⟩
    · exact retN X156 hx (t := .boolean) Bd.returns (by simp) (hb hby at_118) hr
    · show Q0 Z p0_0 u_EQUAL u_NOT_EQUAL u_LESS u_LESS_EQUAL u_GREATER u_GREATER_EQUAL h0 n0 _ T156.heap _
      rw [eh156]
      exact ⟨rfl, N156⟩
  · skip
    obtain ⟨cl158, Ar158, qc158, Sz158, Nn158, Hh158, Gg158⟩ := V132
    have hin158 : ¬ ((1 : Int32) < 0 ∨ cl158.slots.size ≤ ((1 : Int32)).toNatClampNeg) := inb_of Sz158 ⟨by decide, by decide⟩
    obtain ⟨cq159, kq159, q159a, q159b, q159c⟩ := isOf hZ e132 F136
    obtain ⟨_, _, ⟨T159, L159, k159, n159⟩, -, X159, ⟨Lc159, hQ159, l159, y159, z159⟩, st159⟩ := X132.virtualBack hx (y := (⟨"com/example/chop/chop/model/Relation", "isStrict", "()Z"⟩ : MethodName)) (z := (⟨"com/example/chop/chop/model/Relation", "isStrict", "()Z"⟩ : MethodName)) hown (mvT hZ (hw _ (List.mem_of_getElem? (i := 17) rfl))) (mvT hZ (hw _ (List.mem_of_getElem? (i := 18) rfl))) (notFace_of_selects (args := #[]) (mvT hZ (hw _ (List.mem_of_getElem? (i := 20) rfl)))) (mvT hZ (hw _ (List.mem_of_getElem? (i := 20) rfl))) (mvT hZ (hw _ (List.mem_of_getElem? (i := 19) rfl))) (by decide) (backOf (W := 0) (rm7 l Z a0 hw [] u_NOT_EQUAL u_LESS u_GREATER h132 n0 Zs132 F137 F141 ne_NOT_EQUAL_LESS ne_NOT_EQUAL_GREATER) hZ (hw _ (List.mem_of_getElem? (i := 21) rfl)) (hw _ (List.mem_of_getElem? (i := 3) rfl)) (by decide) (by decide)) q159a q159c (g := (mkF m 72 #[.val (.int p0_0), .val (.ref b1), .val (.int (1 : Int32)), .val (.ref u_NOT_EQUAL), .val (.int (0 : Int32)), .unset, .unset] [(.ref u_NOT_EQUAL)])) rfl (by rw [hml]; rfl) (Steps.refl _) (argsL := []) (rest := []) (lenOf pd_1 rfl) rfl (by show 2 * 0 + _ ≤ _; exact Nat.le_of_eq rfl) (hb hby at_72) (fun _ _ => ⟨rfl, e132, (by decide : 1 + 0 ≤ _), (by decide : 6 + 0 ≤ _)⟩)
    dsimp only [Pt.U, Pt.locs, Pt.cells, Pt.slots] at X159 l159 y159 z159 st159 hQ159
    subst l159 y159 z159
    obtain ⟨rfl, N159q, eh159⟩ := hQ159
    have N159 := Fr.app N132 N159q
    obtain ⟨cq160, kq160, q160a, q160b, q160c⟩ := isOf hZ eh159 F136
    obtain ⟨_, _, ⟨T160, L160, k160, n160⟩, -, X160, ⟨Lc160, hQ160, l160, y160, z160⟩, st160⟩ := X159.virtualBack hx (y := (⟨"com/example/chop/chop/model/Relation", "isBound", "()Z"⟩ : MethodName)) (z := (⟨"com/example/chop/chop/model/Relation", "isBound", "()Z"⟩ : MethodName)) hown (mvT hZ (hw _ (List.mem_of_getElem? (i := 24) rfl))) (mvT hZ (hw _ (List.mem_of_getElem? (i := 25) rfl))) (notFace_of_selects (args := #[]) (mvT hZ (hw _ (List.mem_of_getElem? (i := 27) rfl)))) (mvT hZ (hw _ (List.mem_of_getElem? (i := 27) rfl))) (mvT hZ (hw _ (List.mem_of_getElem? (i := 26) rfl))) (by decide) (backOf (W := 0) (rm6 l Z a0 hw [] u_NOT_EQUAL u_EQUAL h132 n0 Zs132 F133 F135 (Ne.symm ne_EQUAL_NOT_EQUAL)) hZ (hw _ (List.mem_of_getElem? (i := 28) rfl)) (hw _ (List.mem_of_getElem? (i := 3) rfl)) (by decide) (by decide)) q160a q160c (g := (mkF m 78 #[.val (.int p0_0), .val (.ref b1), .val (.int (1 : Int32)), .val (.ref u_NOT_EQUAL), .val (.int (0 : Int32)), .val (.int (0 : Int32)), .unset] [(.ref u_NOT_EQUAL)])) rfl (by rw [hml]; rfl) (Steps.refl _) (argsL := []) (rest := []) (lenOf pd_1 rfl) rfl (by show 2 * 0 + _ ≤ _; exact Nat.le_of_eq rfl) (hb hby at_78) (fun _ _ => ⟨rfl, eh159, (by decide : 1 + 0 ≤ _), (by decide : 6 + 0 ≤ _)⟩)
    dsimp only [Pt.U, Pt.locs, Pt.cells, Pt.slots] at X160 l160 y160 z160 st160 hQ160
    subst l160 y160 z160
    obtain ⟨rfl, N160q, eh160⟩ := hQ160
    have N160 := Fr.app N159 N160q
    have k161 : ∀ t, Steps p.tables e below (T160.setTop (mkF m 118 #[.val (.int p0_0), .val (.ref b1), .val (.int (1 : Int32)), .val (.ref u_NOT_EQUAL), .val (.int (0 : Int32)), .val (.int (0 : Int32)), .val (.int (0 : Int32))] [(.int (1 : Int32))])) t → Steps p.tables e below (s₁.setTop (entryFrame m #[(.int p0_0)] maxLocals)) t := by
      intro t k
      refine k152 t ?_
      show Steps p.tables e below (T132.setTop (mkF m 50 #[.val (.int p0_0), .val (.ref b1), .val (.int (1 : Int32)), .unset, .unset, .unset, .unset] [])) _
      refine XS.aloadN X132.here hx rfl (hb hby at_50) rfl rfl ?_
      show Steps p.tables e below (T132.setTop (mkF m 51 #[.val (.int p0_0), .val (.ref b1), .val (.int (1 : Int32)), .unset, .unset, .unset, .unset] [(.ref b1)])) _
      refine XS.iloadN X132.here hx rfl (hb hby at_51) rfl ?_
      show Steps p.tables e below (T132.setTop (mkF m 52 #[.val (.int p0_0), .val (.ref b1), .val (.int (1 : Int32)), .unset, .unset, .unset, .unset] [(.int (1 : Int32)), (.ref b1)])) _
      refine X132.aaload hx (j := (1 : Int32)) (v := (.ref u_NOT_EQUAL)) (by rw [e132]; exact Ar158.1) (State.isArrayOf_alike hZ.alike Ar158.2.1) rfl Ar158.2.2 hin158 (Hh158.at hin158 rfl) (g := (mkF m 52 #[.val (.int p0_0), .val (.ref b1), .val (.int (1 : Int32)), .unset, .unset, .unset, .unset] [(.int (1 : Int32)), (.ref b1)])) rfl rfl (hb hby at_52) _ ?_
      show Steps p.tables e below (T132.setTop (mkF m 53 #[.val (.int p0_0), .val (.ref b1), .val (.int (1 : Int32)), .unset, .unset, .unset, .unset] [(.ref u_NOT_EQUAL)])) _
      refine XS.astoreN X132.here hx rfl (hb hby at_53) rfl rfl (l' := #[.val (.int p0_0), .val (.ref b1), .val (.int (1 : Int32)), .val (.ref u_NOT_EQUAL), .unset, .unset, .unset]) rfl ?_
      show Steps p.tables e below (T132.setTop (mkF m 54 #[.val (.int p0_0), .val (.ref b1), .val (.int (1 : Int32)), .val (.ref u_NOT_EQUAL), .unset, .unset, .unset] [])) _
      refine XS.iloadN X132.here hx rfl (hb hby at_54) rfl ?_
      show Steps p.tables e below (T132.setTop (mkF m 55 #[.val (.int p0_0), .val (.ref b1), .val (.int (1 : Int32)), .val (.ref u_NOT_EQUAL), .unset, .unset, .unset] [(.int (1 : Int32))])) _
      refine XS.iconst X132.here hx rfl (hb hby at_55) ?_
      show Steps p.tables e below (T132.setTop (mkF m 56 #[.val (.int p0_0), .val (.ref b1), .val (.int (1 : Int32)), .val (.ref u_NOT_EQUAL), .unset, .unset, .unset] [(.int (2 : Int32)), (.int (1 : Int32))])) _
      refine XS.icmpNo X132.here hx rfl (hb hby at_56) rfl (feq (by decide : ¬ ((1 : Int32) = (2 : Int32)))).1 ?_
      show Steps p.tables e below (T132.setTop (mkF m 59 #[.val (.int p0_0), .val (.ref b1), .val (.int (1 : Int32)), .val (.ref u_NOT_EQUAL), .unset, .unset, .unset] [])) _
      refine XS.iloadN X132.here hx rfl (hb hby at_59) rfl ?_
      show Steps p.tables e below (T132.setTop (mkF m 60 #[.val (.int p0_0), .val (.ref b1), .val (.int (1 : Int32)), .val (.ref u_NOT_EQUAL), .unset, .unset, .unset] [(.int (1 : Int32))])) _
      refine XS.iconst X132.here hx rfl (hb hby at_60) ?_
      show Steps p.tables e below (T132.setTop (mkF m 61 #[.val (.int p0_0), .val (.ref b1), .val (.int (1 : Int32)), .val (.ref u_NOT_EQUAL), .unset, .unset, .unset] [(.int (4 : Int32)), (.int (1 : Int32))])) _
      refine XS.icmpYes X132.here hx rfl (pc0 := 61) (pc' := 68) rfl (hb hby at_61) rfl (feq (by decide : ¬ ((1 : Int32) = (4 : Int32)))).2 (by decide) (by decide) ?_
      show Steps p.tables e below (T132.setTop (mkF m 68 #[.val (.int p0_0), .val (.ref b1), .val (.int (1 : Int32)), .val (.ref u_NOT_EQUAL), .unset, .unset, .unset] [])) _
      refine XS.iconst X132.here hx rfl (hb hby at_68) ?_
      show Steps p.tables e below (T132.setTop (mkF m 69 #[.val (.int p0_0), .val (.ref b1), .val (.int (1 : Int32)), .val (.ref u_NOT_EQUAL), .unset, .unset, .unset] [(.int (0 : Int32))])) _
      refine XS.istore X132.here hx rfl (hb hby at_69) rfl (l' := #[.val (.int p0_0), .val (.ref b1), .val (.int (1 : Int32)), .val (.ref u_NOT_EQUAL), .val (.int (0 : Int32)), .unset, .unset]) rfl ?_
      show Steps p.tables e below (T132.setTop (mkF m 71 #[.val (.int p0_0), .val (.ref b1), .val (.int (1 : Int32)), .val (.ref u_NOT_EQUAL), .val (.int (0 : Int32)), .unset, .unset] [])) _
      refine XS.aloadN X132.here hx rfl (hb hby at_71) rfl rfl ?_
      show Steps p.tables e below (T132.setTop (mkF m 72 #[.val (.int p0_0), .val (.ref b1), .val (.int (1 : Int32)), .val (.ref u_NOT_EQUAL), .val (.int (0 : Int32)), .unset, .unset] [(.ref u_NOT_EQUAL)])) _
      refine st159.trans ?_
      show Steps p.tables e below (T159.setTop (mkF m 75 #[.val (.int p0_0), .val (.ref b1), .val (.int (1 : Int32)), .val (.ref u_NOT_EQUAL), .val (.int (0 : Int32)), .unset, .unset] [(.int (0 : Int32))])) _
      refine XS.istore X159.here hx rfl (hb hby at_75) rfl (l' := #[.val (.int p0_0), .val (.ref b1), .val (.int (1 : Int32)), .val (.ref u_NOT_EQUAL), .val (.int (0 : Int32)), .val (.int (0 : Int32)), .unset]) rfl ?_
      show Steps p.tables e below (T159.setTop (mkF m 77 #[.val (.int p0_0), .val (.ref b1), .val (.int (1 : Int32)), .val (.ref u_NOT_EQUAL), .val (.int (0 : Int32)), .val (.int (0 : Int32)), .unset] [])) _
      refine XS.aloadN X159.here hx rfl (hb hby at_77) rfl rfl ?_
      show Steps p.tables e below (T159.setTop (mkF m 78 #[.val (.int p0_0), .val (.ref b1), .val (.int (1 : Int32)), .val (.ref u_NOT_EQUAL), .val (.int (0 : Int32)), .val (.int (0 : Int32)), .unset] [(.ref u_NOT_EQUAL)])) _
      refine st160.trans ?_
      show Steps p.tables e below (T160.setTop (mkF m 81 #[.val (.int p0_0), .val (.ref b1), .val (.int (1 : Int32)), .val (.ref u_NOT_EQUAL), .val (.int (0 : Int32)), .val (.int (0 : Int32)), .unset] [(.int (0 : Int32))])) _
      refine XS.ifYes X160.here hx rfl (pc0 := 81) (pc' := 96) rfl (hb hby at_81) rfl ((if0 _ _).trans (teq (by decide : (0 : Int32) = (0 : Int32))).1) (by decide) (by decide) ?_
      show Steps p.tables e below (T160.setTop (mkF m 96 #[.val (.int p0_0), .val (.ref b1), .val (.int (1 : Int32)), .val (.ref u_NOT_EQUAL), .val (.int (0 : Int32)), .val (.int (0 : Int32)), .unset] [])) _
      refine XS.iconst X160.here hx rfl (hb hby at_96) ?_
      show Steps p.tables e below (T160.setTop (mkF m 97 #[.val (.int p0_0), .val (.ref b1), .val (.int (1 : Int32)), .val (.ref u_NOT_EQUAL), .val (.int (0 : Int32)), .val (.int (0 : Int32)), .unset] [(.int (0 : Int32))])) _
      refine XS.istore X160.here hx rfl (hb hby at_97) rfl (l' := #[.val (.int p0_0), .val (.ref b1), .val (.int (1 : Int32)), .val (.ref u_NOT_EQUAL), .val (.int (0 : Int32)), .val (.int (0 : Int32)), .val (.int (0 : Int32))]) rfl ?_
      show Steps p.tables e below (T160.setTop (mkF m 99 #[.val (.int p0_0), .val (.ref b1), .val (.int (1 : Int32)), .val (.ref u_NOT_EQUAL), .val (.int (0 : Int32)), .val (.int (0 : Int32)), .val (.int (0 : Int32))] [])) _
      refine XS.iload X160.here hx rfl (hb hby at_99) rfl ?_
      show Steps p.tables e below (T160.setTop (mkF m 101 #[.val (.int p0_0), .val (.ref b1), .val (.int (1 : Int32)), .val (.ref u_NOT_EQUAL), .val (.int (0 : Int32)), .val (.int (0 : Int32)), .val (.int (0 : Int32))] [(.int (0 : Int32))])) _
      refine XS.iload X160.here hx rfl (hb hby at_101) rfl ?_
      show Steps p.tables e below (T160.setTop (mkF m 103 #[.val (.int p0_0), .val (.ref b1), .val (.int (1 : Int32)), .val (.ref u_NOT_EQUAL), .val (.int (0 : Int32)), .val (.int (0 : Int32)), .val (.int (0 : Int32))] [(.int (0 : Int32)), (.int (0 : Int32))])) _
      refine XS.icmpNo X160.here hx rfl (hb hby at_103) rfl (teq (by decide : (0 : Int32) = (0 : Int32))).2 ?_
      show Steps p.tables e below (T160.setTop (mkF m 106 #[.val (.int p0_0), .val (.ref b1), .val (.int (1 : Int32)), .val (.ref u_NOT_EQUAL), .val (.int (0 : Int32)), .val (.int (0 : Int32)), .val (.int (0 : Int32))] [])) _
      refine XS.iload X160.here hx rfl (hb hby at_106) rfl ?_
      show Steps p.tables e below (T160.setTop (mkF m 108 #[.val (.int p0_0), .val (.ref b1), .val (.int (1 : Int32)), .val (.ref u_NOT_EQUAL), .val (.int (0 : Int32)), .val (.int (0 : Int32)), .val (.int (0 : Int32))] [(.int (0 : Int32))])) _
      refine XS.iload X160.here hx rfl (hb hby at_108) rfl ?_
      show Steps p.tables e below (T160.setTop (mkF m 110 #[.val (.int p0_0), .val (.ref b1), .val (.int (1 : Int32)), .val (.ref u_NOT_EQUAL), .val (.int (0 : Int32)), .val (.int (0 : Int32)), .val (.int (0 : Int32))] [(.int (0 : Int32)), (.int (0 : Int32))])) _
      refine XS.icmpNo X160.here hx rfl (hb hby at_110) rfl (teq (by decide : (0 : Int32) = (0 : Int32))).2 ?_
      show Steps p.tables e below (T160.setTop (mkF m 113 #[.val (.int p0_0), .val (.ref b1), .val (.int (1 : Int32)), .val (.ref u_NOT_EQUAL), .val (.int (0 : Int32)), .val (.int (0 : Int32)), .val (.int (0 : Int32))] [])) _
      refine XS.iconst X160.here hx rfl (hb hby at_113) ?_
      show Steps p.tables e below (T160.setTop (mkF m 114 #[.val (.int p0_0), .val (.ref b1), .val (.int (1 : Int32)), .val (.ref u_NOT_EQUAL), .val (.int (0 : Int32)), .val (.int (0 : Int32)), .val (.int (0 : Int32))] [(.int (1 : Int32))])) _
      refine XS.goto X160.here hx rfl (pc0 := 114) (pc' := 118) rfl (hb hby at_114) (by decide) (by decide) ?_
      exact k
    obtain ⟨fs, hr, hrun, hended, hW, hsame⟩ := X160.leave (v := some (.int (1 : Int32))) (fun h => by rw [Bd.returns] at h; cases h)
    refine ⟨_, _, k161 _ ?_, hrun, hended, _, _, rfl, ?_, ⟨_, rfl⟩, hW, hsame.mono (by decide) (by decide)⟩
    · exact retN X160 hx (t := .boolean) Bd.returns (by simp) (hb hby at_118) hr
    · show Q0 Z p0_0 u_EQUAL u_NOT_EQUAL u_LESS u_LESS_EQUAL u_GREATER u_GREATER_EQUAL h0 n0 _ T160.heap _
      rw [eh160]
      exact ⟨rfl, N160⟩
  · skip
    obtain ⟨cl162, Ar162, qc162, Sz162, Nn162, Hh162, Gg162⟩ := V132
    have hin162 : ¬ ((2 : Int32) < 0 ∨ cl162.slots.size ≤ ((2 : Int32)).toNatClampNeg) := inb_of Sz162 ⟨by decide, by decide⟩
    obtain ⟨cq163, kq163, q163a, q163b, q163c⟩ := isOf hZ e132 F138
    obtain ⟨_, _, ⟨T163, L163, k163, n163⟩, -, X163, ⟨Lc163, hQ163, l163, y163, z163⟩, st163⟩ := X132.virtualBack hx (y := (⟨"com/example/chop/chop/model/Relation", "isStrict", "()Z"⟩ : MethodName)) (z := (⟨"com/example/chop/chop/model/Relation", "isStrict", "()Z"⟩ : MethodName)) hown (mvT hZ (hw _ (List.mem_of_getElem? (i := 17) rfl))) (mvT hZ (hw _ (List.mem_of_getElem? (i := 18) rfl))) (notFace_of_selects (args := #[]) (mvT hZ (hw _ (List.mem_of_getElem? (i := 20) rfl)))) (mvT hZ (hw _ (List.mem_of_getElem? (i := 20) rfl))) (mvT hZ (hw _ (List.mem_of_getElem? (i := 19) rfl))) (by decide) (backOf (W := 0) (rm11 l Z a0 hw [] u_LESS h132 n0 Zs132 F137) hZ (hw _ (List.mem_of_getElem? (i := 21) rfl)) (hw _ (List.mem_of_getElem? (i := 3) rfl)) (by decide) (by decide)) q163a q163c (g := (mkF m 72 #[.val (.int p0_0), .val (.ref b1), .val (.int (2 : Int32)), .val (.ref u_LESS), .val (.int (1 : Int32)), .unset, .unset] [(.ref u_LESS)])) rfl (by rw [hml]; rfl) (Steps.refl _) (argsL := []) (rest := []) (lenOf pd_1 rfl) rfl (by show 2 * 0 + _ ≤ _; exact Nat.le_of_eq rfl) (hb hby at_72) (fun _ _ => ⟨rfl, e132, (by decide : 1 + 0 ≤ _), (by decide : 6 + 0 ≤ _)⟩)
    dsimp only [Pt.U, Pt.locs, Pt.cells, Pt.slots] at X163 l163 y163 z163 st163 hQ163
    subst l163 y163 z163
    obtain ⟨rfl, N163q, eh163⟩ := hQ163
    have N163 := Fr.app N132 N163q
    obtain ⟨cq164, kq164, q164a, q164b, q164c⟩ := isOf hZ eh163 F138
    obtain ⟨_, _, ⟨T164, L164, k164, n164⟩, -, X164, ⟨Lc164, hQ164, l164, y164, z164⟩, st164⟩ := X163.virtualBack hx (y := (⟨"com/example/chop/chop/model/Relation", "isBound", "()Z"⟩ : MethodName)) (z := (⟨"com/example/chop/chop/model/Relation", "isBound", "()Z"⟩ : MethodName)) hown (mvT hZ (hw _ (List.mem_of_getElem? (i := 24) rfl))) (mvT hZ (hw _ (List.mem_of_getElem? (i := 25) rfl))) (notFace_of_selects (args := #[]) (mvT hZ (hw _ (List.mem_of_getElem? (i := 27) rfl)))) (mvT hZ (hw _ (List.mem_of_getElem? (i := 27) rfl))) (mvT hZ (hw _ (List.mem_of_getElem? (i := 26) rfl))) (by decide) (backOf (W := 0) (rm10 l Z a0 hw [] u_LESS u_EQUAL u_NOT_EQUAL h132 n0 Zs132 F133 F135 (Ne.symm ne_EQUAL_LESS) (Ne.symm ne_NOT_EQUAL_LESS)) hZ (hw _ (List.mem_of_getElem? (i := 28) rfl)) (hw _ (List.mem_of_getElem? (i := 3) rfl)) (by decide) (by decide)) q164a q164c (g := (mkF m 78 #[.val (.int p0_0), .val (.ref b1), .val (.int (2 : Int32)), .val (.ref u_LESS), .val (.int (1 : Int32)), .val (.int (1 : Int32)), .unset] [(.ref u_LESS)])) rfl (by rw [hml]; rfl) (Steps.refl _) (argsL := []) (rest := []) (lenOf pd_1 rfl) rfl (by show 2 * 0 + _ ≤ _; exact Nat.le_of_eq rfl) (hb hby at_78) (fun _ _ => ⟨rfl, eh163, (by decide : 1 + 0 ≤ _), (by decide : 6 + 0 ≤ _)⟩)
    dsimp only [Pt.U, Pt.locs, Pt.cells, Pt.slots] at X164 l164 y164 z164 st164 hQ164
    subst l164 y164 z164
    obtain ⟨rfl, N164q, eh164⟩ := hQ164
    have N164 := Fr.app N163 N164q
    obtain ⟨cq165, kq165, q165a, q165b, q165c⟩ := isOf hZ eh164 F138
    obtain ⟨_, _, ⟨T165, L165, k165, n165⟩, -, X165, ⟨Lc165, hQ165, l165, y165, z165⟩, st165⟩ := X164.virtualBack hx (y := (⟨"com/example/chop/chop/model/Relation", "holds", "(I)Z"⟩ : MethodName)) (z := (⟨"com/example/chop/chop/model/Relation", "holds", "(I)Z"⟩ : MethodName)) hown (mvT hZ (hw _ (List.mem_of_getElem? (i := 31) rfl))) (mvT hZ (hw _ (List.mem_of_getElem? (i := 32) rfl))) (notFace_of_selects (args := #[]) (mvT hZ (hw _ (List.mem_of_getElem? (i := 34) rfl)))) (mvT hZ (hw _ (List.mem_of_getElem? (i := 34) rfl))) (mvT hZ (hw _ (List.mem_of_getElem? (i := 33) rfl))) (by decide) (backOf (W := 0) (rm12 l Z a0 hw [] u_LESS h132 n0 Zs132 F138 F146) hZ (hw _ (List.mem_of_getElem? (i := 35) rfl)) (hw _ (List.mem_of_getElem? (i := 3) rfl)) (by decide) (by decide)) q165a q165c (g := (mkF m 86 #[.val (.int p0_0), .val (.ref b1), .val (.int (2 : Int32)), .val (.ref u_LESS), .val (.int (1 : Int32)), .val (.int (1 : Int32)), .unset] [(.int (0 : Int32)), (.ref u_LESS)])) rfl (by rw [hml]; rfl) (Steps.refl _) (argsL := [(.int (0 : Int32))]) (rest := []) (lenOf pd_2 rfl) rfl (by show 2 * 0 + _ ≤ _; exact Nat.le_of_eq rfl) (hb hby at_86) (fun _ _ => ⟨rfl, eh164, (by decide : 1 + 0 ≤ _), (by decide : 6 + 0 ≤ _)⟩)
    dsimp only [Pt.U, Pt.locs, Pt.cells, Pt.slots] at X165 l165 y165 z165 st165 hQ165
    subst l165 y165 z165
    obtain ⟨rfl, N165q, eh165⟩ := hQ165
    have N165 := Fr.app N164 N165q
    have k166 : ∀ t, Steps p.tables e below (T165.setTop (mkF m 118 #[.val (.int p0_0), .val (.ref b1), .val (.int (2 : Int32)), .val (.ref u_LESS), .val (.int (1 : Int32)), .val (.int (1 : Int32)), .val (.int (1 : Int32))] [(.int (1 : Int32))])) t → Steps p.tables e below (s₁.setTop (entryFrame m #[(.int p0_0)] maxLocals)) t := by
      intro t k
      refine k152 t ?_
      show Steps p.tables e below (T132.setTop (mkF m 50 #[.val (.int p0_0), .val (.ref b1), .val (.int (2 : Int32)), .unset, .unset, .unset, .unset] [])) _
      refine XS.aloadN X132.here hx rfl (hb hby at_50) rfl rfl ?_
      show Steps p.tables e below (T132.setTop (mkF m 51 #[.val (.int p0_0), .val (.ref b1), .val (.int (2 : Int32)), .unset, .unset, .unset, .unset] [(.ref b1)])) _
      refine XS.iloadN X132.here hx rfl (hb hby at_51) rfl ?_
      show Steps p.tables e below (T132.setTop (mkF m 52 #[.val (.int p0_0), .val (.ref b1), .val (.int (2 : Int32)), .unset, .unset, .unset, .unset] [(.int (2 : Int32)), (.ref b1)])) _
      refine X132.aaload hx (j := (2 : Int32)) (v := (.ref u_LESS)) (by rw [e132]; exact Ar162.1) (State.isArrayOf_alike hZ.alike Ar162.2.1) rfl Ar162.2.2 hin162 (Hh162.at hin162 rfl) (g := (mkF m 52 #[.val (.int p0_0), .val (.ref b1), .val (.int (2 : Int32)), .unset, .unset, .unset, .unset] [(.int (2 : Int32)), (.ref b1)])) rfl rfl (hb hby at_52) _ ?_
      show Steps p.tables e below (T132.setTop (mkF m 53 #[.val (.int p0_0), .val (.ref b1), .val (.int (2 : Int32)), .unset, .unset, .unset, .unset] [(.ref u_LESS)])) _
      refine XS.astoreN X132.here hx rfl (hb hby at_53) rfl rfl (l' := #[.val (.int p0_0), .val (.ref b1), .val (.int (2 : Int32)), .val (.ref u_LESS), .unset, .unset, .unset]) rfl ?_
      show Steps p.tables e below (T132.setTop (mkF m 54 #[.val (.int p0_0), .val (.ref b1), .val (.int (2 : Int32)), .val (.ref u_LESS), .unset, .unset, .unset] [])) _
      refine XS.iloadN X132.here hx rfl (hb hby at_54) rfl ?_
      show Steps p.tables e below (T132.setTop (mkF m 55 #[.val (.int p0_0), .val (.ref b1), .val (.int (2 : Int32)), .val (.ref u_LESS), .unset, .unset, .unset] [(.int (2 : Int32))])) _
      refine XS.iconst X132.here hx rfl (hb hby at_55) ?_
      show Steps p.tables e below (T132.setTop (mkF m 56 #[.val (.int p0_0), .val (.ref b1), .val (.int (2 : Int32)), .val (.ref u_LESS), .unset, .unset, .unset] [(.int (2 : Int32)), (.int (2 : Int32))])) _
      refine XS.icmpYes X132.here hx rfl (pc0 := 56) (pc' := 64) rfl (hb hby at_56) rfl (teq (by decide : (2 : Int32) = (2 : Int32))).1 (by decide) (by decide) ?_
      show Steps p.tables e below (T132.setTop (mkF m 64 #[.val (.int p0_0), .val (.ref b1), .val (.int (2 : Int32)), .val (.ref u_LESS), .unset, .unset, .unset] [])) _
      refine XS.iconst X132.here hx rfl (hb hby at_64) ?_
      show Steps p.tables e below (T132.setTop (mkF m 65 #[.val (.int p0_0), .val (.ref b1), .val (.int (2 : Int32)), .val (.ref u_LESS), .unset, .unset, .unset] [(.int (1 : Int32))])) _
      refine XS.goto X132.here hx rfl (pc0 := 65) (pc' := 69) rfl (hb hby at_65) (by decide) (by decide) ?_
      show Steps p.tables e below (T132.setTop (mkF m 69 #[.val (.int p0_0), .val (.ref b1), .val (.int (2 : Int32)), .val (.ref u_LESS), .unset, .unset, .unset] [(.int (1 : Int32))])) _
      refine XS.istore X132.here hx rfl (hb hby at_69) rfl (l' := #[.val (.int p0_0), .val (.ref b1), .val (.int (2 : Int32)), .val (.ref u_LESS), .val (.int (1 : Int32)), .unset, .unset]) rfl ?_
      show Steps p.tables e below (T132.setTop (mkF m 71 #[.val (.int p0_0), .val (.ref b1), .val (.int (2 : Int32)), .val (.ref u_LESS), .val (.int (1 : Int32)), .unset, .unset] [])) _
      refine XS.aloadN X132.here hx rfl (hb hby at_71) rfl rfl ?_
      show Steps p.tables e below (T132.setTop (mkF m 72 #[.val (.int p0_0), .val (.ref b1), .val (.int (2 : Int32)), .val (.ref u_LESS), .val (.int (1 : Int32)), .unset, .unset] [(.ref u_LESS)])) _
      refine st163.trans ?_
      show Steps p.tables e below (T163.setTop (mkF m 75 #[.val (.int p0_0), .val (.ref b1), .val (.int (2 : Int32)), .val (.ref u_LESS), .val (.int (1 : Int32)), .unset, .unset] [(.int (1 : Int32))])) _
      refine XS.istore X163.here hx rfl (hb hby at_75) rfl (l' := #[.val (.int p0_0), .val (.ref b1), .val (.int (2 : Int32)), .val (.ref u_LESS), .val (.int (1 : Int32)), .val (.int (1 : Int32)), .unset]) rfl ?_
      show Steps p.tables e below (T163.setTop (mkF m 77 #[.val (.int p0_0), .val (.ref b1), .val (.int (2 : Int32)), .val (.ref u_LESS), .val (.int (1 : Int32)), .val (.int (1 : Int32)), .unset] [])) _
      refine XS.aloadN X163.here hx rfl (hb hby at_77) rfl rfl ?_
      show Steps p.tables e below (T163.setTop (mkF m 78 #[.val (.int p0_0), .val (.ref b1), .val (.int (2 : Int32)), .val (.ref u_LESS), .val (.int (1 : Int32)), .val (.int (1 : Int32)), .unset] [(.ref u_LESS)])) _
      refine st164.trans ?_
      show Steps p.tables e below (T164.setTop (mkF m 81 #[.val (.int p0_0), .val (.ref b1), .val (.int (2 : Int32)), .val (.ref u_LESS), .val (.int (1 : Int32)), .val (.int (1 : Int32)), .unset] [(.int (1 : Int32))])) _
      refine XS.ifNo X164.here hx rfl (hb hby at_81) rfl ((if0 _ _).trans (feq (by decide : ¬ ((1 : Int32) = (0 : Int32)))).1) ?_
      show Steps p.tables e below (T164.setTop (mkF m 84 #[.val (.int p0_0), .val (.ref b1), .val (.int (2 : Int32)), .val (.ref u_LESS), .val (.int (1 : Int32)), .val (.int (1 : Int32)), .unset] [])) _
      refine XS.aloadN X164.here hx rfl (hb hby at_84) rfl rfl ?_
      show Steps p.tables e below (T164.setTop (mkF m 85 #[.val (.int p0_0), .val (.ref b1), .val (.int (2 : Int32)), .val (.ref u_LESS), .val (.int (1 : Int32)), .val (.int (1 : Int32)), .unset] [(.ref u_LESS)])) _
      refine XS.iconst X164.here hx rfl (hb hby at_85) ?_
      show Steps p.tables e below (T164.setTop (mkF m 86 #[.val (.int p0_0), .val (.ref b1), .val (.int (2 : Int32)), .val (.ref u_LESS), .val (.int (1 : Int32)), .val (.int (1 : Int32)), .unset] [(.int (0 : Int32)), (.ref u_LESS)])) _
      refine st165.trans ?_
      show Steps p.tables e below (T165.setTop (mkF m 89 #[.val (.int p0_0), .val (.ref b1), .val (.int (2 : Int32)), .val (.ref u_LESS), .val (.int (1 : Int32)), .val (.int (1 : Int32)), .unset] [(.int (0 : Int32))])) _
      refine XS.ifNo X165.here hx rfl (hb hby at_89) rfl ((if0 _ _).trans (teq (by decide : (0 : Int32) = (0 : Int32))).2) ?_
      show Steps p.tables e below (T165.setTop (mkF m 92 #[.val (.int p0_0), .val (.ref b1), .val (.int (2 : Int32)), .val (.ref u_LESS), .val (.int (1 : Int32)), .val (.int (1 : Int32)), .unset] [])) _
      refine XS.iconst X165.here hx rfl (hb hby at_92) ?_
      show Steps p.tables e below (T165.setTop (mkF m 93 #[.val (.int p0_0), .val (.ref b1), .val (.int (2 : Int32)), .val (.ref u_LESS), .val (.int (1 : Int32)), .val (.int (1 : Int32)), .unset] [(.int (1 : Int32))])) _
      refine XS.goto X165.here hx rfl (pc0 := 93) (pc' := 97) rfl (hb hby at_93) (by decide) (by decide) ?_
      show Steps p.tables e below (T165.setTop (mkF m 97 #[.val (.int p0_0), .val (.ref b1), .val (.int (2 : Int32)), .val (.ref u_LESS), .val (.int (1 : Int32)), .val (.int (1 : Int32)), .unset] [(.int (1 : Int32))])) _
      refine XS.istore X165.here hx rfl (hb hby at_97) rfl (l' := #[.val (.int p0_0), .val (.ref b1), .val (.int (2 : Int32)), .val (.ref u_LESS), .val (.int (1 : Int32)), .val (.int (1 : Int32)), .val (.int (1 : Int32))]) rfl ?_
      show Steps p.tables e below (T165.setTop (mkF m 99 #[.val (.int p0_0), .val (.ref b1), .val (.int (2 : Int32)), .val (.ref u_LESS), .val (.int (1 : Int32)), .val (.int (1 : Int32)), .val (.int (1 : Int32))] [])) _
      refine XS.iload X165.here hx rfl (hb hby at_99) rfl ?_
      show Steps p.tables e below (T165.setTop (mkF m 101 #[.val (.int p0_0), .val (.ref b1), .val (.int (2 : Int32)), .val (.ref u_LESS), .val (.int (1 : Int32)), .val (.int (1 : Int32)), .val (.int (1 : Int32))] [(.int (1 : Int32))])) _
      refine XS.iload X165.here hx rfl (hb hby at_101) rfl ?_
      show Steps p.tables e below (T165.setTop (mkF m 103 #[.val (.int p0_0), .val (.ref b1), .val (.int (2 : Int32)), .val (.ref u_LESS), .val (.int (1 : Int32)), .val (.int (1 : Int32)), .val (.int (1 : Int32))] [(.int (1 : Int32)), (.int (1 : Int32))])) _
      refine XS.icmpNo X165.here hx rfl (hb hby at_103) rfl (teq (by decide : (1 : Int32) = (1 : Int32))).2 ?_
      show Steps p.tables e below (T165.setTop (mkF m 106 #[.val (.int p0_0), .val (.ref b1), .val (.int (2 : Int32)), .val (.ref u_LESS), .val (.int (1 : Int32)), .val (.int (1 : Int32)), .val (.int (1 : Int32))] [])) _
      refine XS.iload X165.here hx rfl (hb hby at_106) rfl ?_
      show Steps p.tables e below (T165.setTop (mkF m 108 #[.val (.int p0_0), .val (.ref b1), .val (.int (2 : Int32)), .val (.ref u_LESS), .val (.int (1 : Int32)), .val (.int (1 : Int32)), .val (.int (1 : Int32))] [(.int (1 : Int32))])) _
      refine XS.iload X165.here hx rfl (hb hby at_108) rfl ?_
      show Steps p.tables e below (T165.setTop (mkF m 110 #[.val (.int p0_0), .val (.ref b1), .val (.int (2 : Int32)), .val (.ref u_LESS), .val (.int (1 : Int32)), .val (.int (1 : Int32)), .val (.int (1 : Int32))] [(.int (1 : Int32)), (.int (1 : Int32))])) _
      refine XS.icmpNo X165.here hx rfl (hb hby at_110) rfl (teq (by decide : (1 : Int32) = (1 : Int32))).2 ?_
      show Steps p.tables e below (T165.setTop (mkF m 113 #[.val (.int p0_0), .val (.ref b1), .val (.int (2 : Int32)), .val (.ref u_LESS), .val (.int (1 : Int32)), .val (.int (1 : Int32)), .val (.int (1 : Int32))] [])) _
      refine XS.iconst X165.here hx rfl (hb hby at_113) ?_
      show Steps p.tables e below (T165.setTop (mkF m 114 #[.val (.int p0_0), .val (.ref b1), .val (.int (2 : Int32)), .val (.ref u_LESS), .val (.int (1 : Int32)), .val (.int (1 : Int32)), .val (.int (1 : Int32))] [(.int (1 : Int32))])) _
      refine XS.goto X165.here hx rfl (pc0 := 114) (pc' := 118) rfl (hb hby at_114) (by decide) (by decide) ?_
      exact k
    obtain ⟨fs, hr, hrun, hended, hW, hsame⟩ := X165.leave (v := some (.int (1 : Int32))) (fun h => by rw [Bd.returns] at h; cases h)
    refine ⟨_, _, k166 _ ?_, hrun, hended, _, _, rfl, ?_, ⟨_, rfl⟩, hW, hsame.mono (by decide) (by decide)⟩
    · exact retN X165 hx (t := .boolean) Bd.returns (by simp) (hb hby at_118) hr
    · show Q0 Z p0_0 u_EQUAL u_NOT_EQUAL u_LESS u_LESS_EQUAL u_GREATER u_GREATER_EQUAL h0 n0 _ T165.heap _
      rw [eh165]
      exact ⟨rfl, N165⟩
  · skip
    obtain ⟨cl167, Ar167, qc167, Sz167, Nn167, Hh167, Gg167⟩ := V132
    have hin167 : ¬ ((3 : Int32) < 0 ∨ cl167.slots.size ≤ ((3 : Int32)).toNatClampNeg) := inb_of Sz167 ⟨by decide, by decide⟩
    obtain ⟨cq168, kq168, q168a, q168b, q168c⟩ := isOf hZ e132 F140
    obtain ⟨_, _, ⟨T168, L168, k168, n168⟩, -, X168, ⟨Lc168, hQ168, l168, y168, z168⟩, st168⟩ := X132.virtualBack hx (y := (⟨"com/example/chop/chop/model/Relation", "isStrict", "()Z"⟩ : MethodName)) (z := (⟨"com/example/chop/chop/model/Relation", "isStrict", "()Z"⟩ : MethodName)) hown (mvT hZ (hw _ (List.mem_of_getElem? (i := 17) rfl))) (mvT hZ (hw _ (List.mem_of_getElem? (i := 18) rfl))) (notFace_of_selects (args := #[]) (mvT hZ (hw _ (List.mem_of_getElem? (i := 20) rfl)))) (mvT hZ (hw _ (List.mem_of_getElem? (i := 20) rfl))) (mvT hZ (hw _ (List.mem_of_getElem? (i := 19) rfl))) (by decide) (backOf (W := 0) (rm15 l Z a0 hw [] u_LESS_EQUAL u_LESS u_GREATER h132 n0 Zs132 F137 F141 (Ne.symm ne_LESS_LESS_EQUAL) ne_LESS_EQUAL_GREATER) hZ (hw _ (List.mem_of_getElem? (i := 21) rfl)) (hw _ (List.mem_of_getElem? (i := 3) rfl)) (by decide) (by decide)) q168a q168c (g := (mkF m 72 #[.val (.int p0_0), .val (.ref b1), .val (.int (3 : Int32)), .val (.ref u_LESS_EQUAL), .val (.int (0 : Int32)), .unset, .unset] [(.ref u_LESS_EQUAL)])) rfl (by rw [hml]; rfl) (Steps.refl _) (argsL := []) (rest := []) (lenOf pd_1 rfl) rfl (by show 2 * 0 + _ ≤ _; exact Nat.le_of_eq rfl) (hb hby at_72) (fun _ _ => ⟨rfl, e132, (by decide : 1 + 0 ≤ _), (by decide : 6 + 0 ≤ _)⟩)
    dsimp only [Pt.U, Pt.locs, Pt.cells, Pt.slots] at X168 l168 y168 z168 st168 hQ168
    subst l168 y168 z168
    obtain ⟨rfl, N168q, eh168⟩ := hQ168
    have N168 := Fr.app N132 N168q
    obtain ⟨cq169, kq169, q169a, q169b, q169c⟩ := isOf hZ eh168 F140
    obtain ⟨_, _, ⟨T169, L169, k169, n169⟩, -, X169, ⟨Lc169, hQ169, l169, y169, z169⟩, st169⟩ := X168.virtualBack hx (y := (⟨"com/example/chop/chop/model/Relation", "isBound", "()Z"⟩ : MethodName)) (z := (⟨"com/example/chop/chop/model/Relation", "isBound", "()Z"⟩ : MethodName)) hown (mvT hZ (hw _ (List.mem_of_getElem? (i := 24) rfl))) (mvT hZ (hw _ (List.mem_of_getElem? (i := 25) rfl))) (notFace_of_selects (args := #[]) (mvT hZ (hw _ (List.mem_of_getElem? (i := 27) rfl)))) (mvT hZ (hw _ (List.mem_of_getElem? (i := 27) rfl))) (mvT hZ (hw _ (List.mem_of_getElem? (i := 26) rfl))) (by decide) (backOf (W := 0) (rm14 l Z a0 hw [] u_LESS_EQUAL u_EQUAL u_NOT_EQUAL h132 n0 Zs132 F133 F135 (Ne.symm ne_EQUAL_LESS_EQUAL) (Ne.symm ne_NOT_EQUAL_LESS_EQUAL)) hZ (hw _ (List.mem_of_getElem? (i := 28) rfl)) (hw _ (List.mem_of_getElem? (i := 3) rfl)) (by decide) (by decide)) q169a q169c (g := (mkF m 78 #[.val (.int p0_0), .val (.ref b1), .val (.int (3 : Int32)), .val (.ref u_LESS_EQUAL), .val (.int (0 : Int32)), .val (.int (0 : Int32)), .unset] [(.ref u_LESS_EQUAL)])) rfl (by rw [hml]; rfl) (Steps.refl _) (argsL := []) (rest := []) (lenOf pd_1 rfl) rfl (by show 2 * 0 + _ ≤ _; exact Nat.le_of_eq rfl) (hb hby at_78) (fun _ _ => ⟨rfl, eh168, (by decide : 1 + 0 ≤ _), (by decide : 6 + 0 ≤ _)⟩)
    dsimp only [Pt.U, Pt.locs, Pt.cells, Pt.slots] at X169 l169 y169 z169 st169 hQ169
    subst l169 y169 z169
    obtain ⟨rfl, N169q, eh169⟩ := hQ169
    have N169 := Fr.app N168 N169q
    obtain ⟨cq170, kq170, q170a, q170b, q170c⟩ := isOf hZ eh169 F140
    obtain ⟨_, _, ⟨T170, L170, k170, n170⟩, -, X170, ⟨Lc170, hQ170, l170, y170, z170⟩, st170⟩ := X169.virtualBack hx (y := (⟨"com/example/chop/chop/model/Relation", "holds", "(I)Z"⟩ : MethodName)) (z := (⟨"com/example/chop/chop/model/Relation", "holds", "(I)Z"⟩ : MethodName)) hown (mvT hZ (hw _ (List.mem_of_getElem? (i := 31) rfl))) (mvT hZ (hw _ (List.mem_of_getElem? (i := 32) rfl))) (notFace_of_selects (args := #[]) (mvT hZ (hw _ (List.mem_of_getElem? (i := 34) rfl)))) (mvT hZ (hw _ (List.mem_of_getElem? (i := 34) rfl))) (mvT hZ (hw _ (List.mem_of_getElem? (i := 33) rfl))) (by decide) (backOf (W := 0) (rm16 l Z a0 hw [] u_LESS_EQUAL h132 n0 Zs132 F140 F148) hZ (hw _ (List.mem_of_getElem? (i := 35) rfl)) (hw _ (List.mem_of_getElem? (i := 3) rfl)) (by decide) (by decide)) q170a q170c (g := (mkF m 86 #[.val (.int p0_0), .val (.ref b1), .val (.int (3 : Int32)), .val (.ref u_LESS_EQUAL), .val (.int (0 : Int32)), .val (.int (0 : Int32)), .unset] [(.int (0 : Int32)), (.ref u_LESS_EQUAL)])) rfl (by rw [hml]; rfl) (Steps.refl _) (argsL := [(.int (0 : Int32))]) (rest := []) (lenOf pd_2 rfl) rfl (by show 2 * 0 + _ ≤ _; exact Nat.le_of_eq rfl) (hb hby at_86) (fun _ _ => ⟨rfl, eh169, (by decide : 1 + 0 ≤ _), (by decide : 6 + 0 ≤ _)⟩)
    dsimp only [Pt.U, Pt.locs, Pt.cells, Pt.slots] at X170 l170 y170 z170 st170 hQ170
    subst l170 y170 z170
    obtain ⟨rfl, N170q, eh170⟩ := hQ170
    have N170 := Fr.app N169 N170q
    have k171 : ∀ t, Steps p.tables e below (T170.setTop (mkF m 118 #[.val (.int p0_0), .val (.ref b1), .val (.int (3 : Int32)), .val (.ref u_LESS_EQUAL), .val (.int (0 : Int32)), .val (.int (0 : Int32)), .val (.int (0 : Int32))] [(.int (1 : Int32))])) t → Steps p.tables e below (s₁.setTop (entryFrame m #[(.int p0_0)] maxLocals)) t := by
      intro t k
      refine k152 t ?_
      show Steps p.tables e below (T132.setTop (mkF m 50 #[.val (.int p0_0), .val (.ref b1), .val (.int (3 : Int32)), .unset, .unset, .unset, .unset] [])) _
      refine XS.aloadN X132.here hx rfl (hb hby at_50) rfl rfl ?_
      show Steps p.tables e below (T132.setTop (mkF m 51 #[.val (.int p0_0), .val (.ref b1), .val (.int (3 : Int32)), .unset, .unset, .unset, .unset] [(.ref b1)])) _
      refine XS.iloadN X132.here hx rfl (hb hby at_51) rfl ?_
      show Steps p.tables e below (T132.setTop (mkF m 52 #[.val (.int p0_0), .val (.ref b1), .val (.int (3 : Int32)), .unset, .unset, .unset, .unset] [(.int (3 : Int32)), (.ref b1)])) _
      refine X132.aaload hx (j := (3 : Int32)) (v := (.ref u_LESS_EQUAL)) (by rw [e132]; exact Ar167.1) (State.isArrayOf_alike hZ.alike Ar167.2.1) rfl Ar167.2.2 hin167 (Hh167.at hin167 rfl) (g := (mkF m 52 #[.val (.int p0_0), .val (.ref b1), .val (.int (3 : Int32)), .unset, .unset, .unset, .unset] [(.int (3 : Int32)), (.ref b1)])) rfl rfl (hb hby at_52) _ ?_
      show Steps p.tables e below (T132.setTop (mkF m 53 #[.val (.int p0_0), .val (.ref b1), .val (.int (3 : Int32)), .unset, .unset, .unset, .unset] [(.ref u_LESS_EQUAL)])) _
      refine XS.astoreN X132.here hx rfl (hb hby at_53) rfl rfl (l' := #[.val (.int p0_0), .val (.ref b1), .val (.int (3 : Int32)), .val (.ref u_LESS_EQUAL), .unset, .unset, .unset]) rfl ?_
      show Steps p.tables e below (T132.setTop (mkF m 54 #[.val (.int p0_0), .val (.ref b1), .val (.int (3 : Int32)), .val (.ref u_LESS_EQUAL), .unset, .unset, .unset] [])) _
      refine XS.iloadN X132.here hx rfl (hb hby at_54) rfl ?_
      show Steps p.tables e below (T132.setTop (mkF m 55 #[.val (.int p0_0), .val (.ref b1), .val (.int (3 : Int32)), .val (.ref u_LESS_EQUAL), .unset, .unset, .unset] [(.int (3 : Int32))])) _
      refine XS.iconst X132.here hx rfl (hb hby at_55) ?_
      show Steps p.tables e below (T132.setTop (mkF m 56 #[.val (.int p0_0), .val (.ref b1), .val (.int (3 : Int32)), .val (.ref u_LESS_EQUAL), .unset, .unset, .unset] [(.int (2 : Int32)), (.int (3 : Int32))])) _
      refine XS.icmpNo X132.here hx rfl (hb hby at_56) rfl (feq (by decide : ¬ ((3 : Int32) = (2 : Int32)))).1 ?_
      show Steps p.tables e below (T132.setTop (mkF m 59 #[.val (.int p0_0), .val (.ref b1), .val (.int (3 : Int32)), .val (.ref u_LESS_EQUAL), .unset, .unset, .unset] [])) _
      refine XS.iloadN X132.here hx rfl (hb hby at_59) rfl ?_
      show Steps p.tables e below (T132.setTop (mkF m 60 #[.val (.int p0_0), .val (.ref b1), .val (.int (3 : Int32)), .val (.ref u_LESS_EQUAL), .unset, .unset, .unset] [(.int (3 : Int32))])) _
      refine XS.iconst X132.here hx rfl (hb hby at_60) ?_
      show Steps p.tables e below (T132.setTop (mkF m 61 #[.val (.int p0_0), .val (.ref b1), .val (.int (3 : Int32)), .val (.ref u_LESS_EQUAL), .unset, .unset, .unset] [(.int (4 : Int32)), (.int (3 : Int32))])) _
      refine XS.icmpYes X132.here hx rfl (pc0 := 61) (pc' := 68) rfl (hb hby at_61) rfl (feq (by decide : ¬ ((3 : Int32) = (4 : Int32)))).2 (by decide) (by decide) ?_
      show Steps p.tables e below (T132.setTop (mkF m 68 #[.val (.int p0_0), .val (.ref b1), .val (.int (3 : Int32)), .val (.ref u_LESS_EQUAL), .unset, .unset, .unset] [])) _
      refine XS.iconst X132.here hx rfl (hb hby at_68) ?_
      show Steps p.tables e below (T132.setTop (mkF m 69 #[.val (.int p0_0), .val (.ref b1), .val (.int (3 : Int32)), .val (.ref u_LESS_EQUAL), .unset, .unset, .unset] [(.int (0 : Int32))])) _
      refine XS.istore X132.here hx rfl (hb hby at_69) rfl (l' := #[.val (.int p0_0), .val (.ref b1), .val (.int (3 : Int32)), .val (.ref u_LESS_EQUAL), .val (.int (0 : Int32)), .unset, .unset]) rfl ?_
      show Steps p.tables e below (T132.setTop (mkF m 71 #[.val (.int p0_0), .val (.ref b1), .val (.int (3 : Int32)), .val (.ref u_LESS_EQUAL), .val (.int (0 : Int32)), .unset, .unset] [])) _
      refine XS.aloadN X132.here hx rfl (hb hby at_71) rfl rfl ?_
      show Steps p.tables e below (T132.setTop (mkF m 72 #[.val (.int p0_0), .val (.ref b1), .val (.int (3 : Int32)), .val (.ref u_LESS_EQUAL), .val (.int (0 : Int32)), .unset, .unset] [(.ref u_LESS_EQUAL)])) _
      refine st168.trans ?_
      show Steps p.tables e below (T168.setTop (mkF m 75 #[.val (.int p0_0), .val (.ref b1), .val (.int (3 : Int32)), .val (.ref u_LESS_EQUAL), .val (.int (0 : Int32)), .unset, .unset] [(.int (0 : Int32))])) _
      refine XS.istore X168.here hx rfl (hb hby at_75) rfl (l' := #[.val (.int p0_0), .val (.ref b1), .val (.int (3 : Int32)), .val (.ref u_LESS_EQUAL), .val (.int (0 : Int32)), .val (.int (0 : Int32)), .unset]) rfl ?_
      show Steps p.tables e below (T168.setTop (mkF m 77 #[.val (.int p0_0), .val (.ref b1), .val (.int (3 : Int32)), .val (.ref u_LESS_EQUAL), .val (.int (0 : Int32)), .val (.int (0 : Int32)), .unset] [])) _
      refine XS.aloadN X168.here hx rfl (hb hby at_77) rfl rfl ?_
      show Steps p.tables e below (T168.setTop (mkF m 78 #[.val (.int p0_0), .val (.ref b1), .val (.int (3 : Int32)), .val (.ref u_LESS_EQUAL), .val (.int (0 : Int32)), .val (.int (0 : Int32)), .unset] [(.ref u_LESS_EQUAL)])) _
      refine st169.trans ?_
      show Steps p.tables e below (T169.setTop (mkF m 81 #[.val (.int p0_0), .val (.ref b1), .val (.int (3 : Int32)), .val (.ref u_LESS_EQUAL), .val (.int (0 : Int32)), .val (.int (0 : Int32)), .unset] [(.int (1 : Int32))])) _
      refine XS.ifNo X169.here hx rfl (hb hby at_81) rfl ((if0 _ _).trans (feq (by decide : ¬ ((1 : Int32) = (0 : Int32)))).1) ?_
      show Steps p.tables e below (T169.setTop (mkF m 84 #[.val (.int p0_0), .val (.ref b1), .val (.int (3 : Int32)), .val (.ref u_LESS_EQUAL), .val (.int (0 : Int32)), .val (.int (0 : Int32)), .unset] [])) _
      refine XS.aloadN X169.here hx rfl (hb hby at_84) rfl rfl ?_
      show Steps p.tables e below (T169.setTop (mkF m 85 #[.val (.int p0_0), .val (.ref b1), .val (.int (3 : Int32)), .val (.ref u_LESS_EQUAL), .val (.int (0 : Int32)), .val (.int (0 : Int32)), .unset] [(.ref u_LESS_EQUAL)])) _
      refine XS.iconst X169.here hx rfl (hb hby at_85) ?_
      show Steps p.tables e below (T169.setTop (mkF m 86 #[.val (.int p0_0), .val (.ref b1), .val (.int (3 : Int32)), .val (.ref u_LESS_EQUAL), .val (.int (0 : Int32)), .val (.int (0 : Int32)), .unset] [(.int (0 : Int32)), (.ref u_LESS_EQUAL)])) _
      refine st170.trans ?_
      show Steps p.tables e below (T170.setTop (mkF m 89 #[.val (.int p0_0), .val (.ref b1), .val (.int (3 : Int32)), .val (.ref u_LESS_EQUAL), .val (.int (0 : Int32)), .val (.int (0 : Int32)), .unset] [(.int (1 : Int32))])) _
      refine XS.ifYes X170.here hx rfl (pc0 := 89) (pc' := 96) rfl (hb hby at_89) rfl ((if0 _ _).trans (feq (by decide : ¬ ((1 : Int32) = (0 : Int32)))).2) (by decide) (by decide) ?_
      show Steps p.tables e below (T170.setTop (mkF m 96 #[.val (.int p0_0), .val (.ref b1), .val (.int (3 : Int32)), .val (.ref u_LESS_EQUAL), .val (.int (0 : Int32)), .val (.int (0 : Int32)), .unset] [])) _
      refine XS.iconst X170.here hx rfl (hb hby at_96) ?_
      show Steps p.tables e below (T170.setTop (mkF m 97 #[.val (.int p0_0), .val (.ref b1), .val (.int (3 : Int32)), .val (.ref u_LESS_EQUAL), .val (.int (0 : Int32)), .val (.int (0 : Int32)), .unset] [(.int (0 : Int32))])) _
      refine XS.istore X170.here hx rfl (hb hby at_97) rfl (l' := #[.val (.int p0_0), .val (.ref b1), .val (.int (3 : Int32)), .val (.ref u_LESS_EQUAL), .val (.int (0 : Int32)), .val (.int (0 : Int32)), .val (.int (0 : Int32))]) rfl ?_
      show Steps p.tables e below (T170.setTop (mkF m 99 #[.val (.int p0_0), .val (.ref b1), .val (.int (3 : Int32)), .val (.ref u_LESS_EQUAL), .val (.int (0 : Int32)), .val (.int (0 : Int32)), .val (.int (0 : Int32))] [])) _
      refine XS.iload X170.here hx rfl (hb hby at_99) rfl ?_
      show Steps p.tables e below (T170.setTop (mkF m 101 #[.val (.int p0_0), .val (.ref b1), .val (.int (3 : Int32)), .val (.ref u_LESS_EQUAL), .val (.int (0 : Int32)), .val (.int (0 : Int32)), .val (.int (0 : Int32))] [(.int (0 : Int32))])) _
      refine XS.iload X170.here hx rfl (hb hby at_101) rfl ?_
      show Steps p.tables e below (T170.setTop (mkF m 103 #[.val (.int p0_0), .val (.ref b1), .val (.int (3 : Int32)), .val (.ref u_LESS_EQUAL), .val (.int (0 : Int32)), .val (.int (0 : Int32)), .val (.int (0 : Int32))] [(.int (0 : Int32)), (.int (0 : Int32))])) _
      refine XS.icmpNo X170.here hx rfl (hb hby at_103) rfl (teq (by decide : (0 : Int32) = (0 : Int32))).2 ?_
      show Steps p.tables e below (T170.setTop (mkF m 106 #[.val (.int p0_0), .val (.ref b1), .val (.int (3 : Int32)), .val (.ref u_LESS_EQUAL), .val (.int (0 : Int32)), .val (.int (0 : Int32)), .val (.int (0 : Int32))] [])) _
      refine XS.iload X170.here hx rfl (hb hby at_106) rfl ?_
      show Steps p.tables e below (T170.setTop (mkF m 108 #[.val (.int p0_0), .val (.ref b1), .val (.int (3 : Int32)), .val (.ref u_LESS_EQUAL), .val (.int (0 : Int32)), .val (.int (0 : Int32)), .val (.int (0 : Int32))] [(.int (0 : Int32))])) _
      refine XS.iload X170.here hx rfl (hb hby at_108) rfl ?_
      show Steps p.tables e below (T170.setTop (mkF m 110 #[.val (.int p0_0), .val (.ref b1), .val (.int (3 : Int32)), .val (.ref u_LESS_EQUAL), .val (.int (0 : Int32)), .val (.int (0 : Int32)), .val (.int (0 : Int32))] [(.int (0 : Int32)), (.int (0 : Int32))])) _
      refine XS.icmpNo X170.here hx rfl (hb hby at_110) rfl (teq (by decide : (0 : Int32) = (0 : Int32))).2 ?_
      show Steps p.tables e below (T170.setTop (mkF m 113 #[.val (.int p0_0), .val (.ref b1), .val (.int (3 : Int32)), .val (.ref u_LESS_EQUAL), .val (.int (0 : Int32)), .val (.int (0 : Int32)), .val (.int (0 : Int32))] [])) _
      refine XS.iconst X170.here hx rfl (hb hby at_113) ?_
      show Steps p.tables e below (T170.setTop (mkF m 114 #[.val (.int p0_0), .val (.ref b1), .val (.int (3 : Int32)), .val (.ref u_LESS_EQUAL), .val (.int (0 : Int32)), .val (.int (0 : Int32)), .val (.int (0 : Int32))] [(.int (1 : Int32))])) _
      refine XS.goto X170.here hx rfl (pc0 := 114) (pc' := 118) rfl (hb hby at_114) (by decide) (by decide) ?_
      exact k
    obtain ⟨fs, hr, hrun, hended, hW, hsame⟩ := X170.leave (v := some (.int (1 : Int32))) (fun h => by rw [Bd.returns] at h; cases h)
    refine ⟨_, _, k171 _ ?_, hrun, hended, _, _, rfl, ?_, ⟨_, rfl⟩, hW, hsame.mono (by decide) (by decide)⟩
    · exact retN X170 hx (t := .boolean) Bd.returns (by simp) (hb hby at_118) hr
    · show Q0 Z p0_0 u_EQUAL u_NOT_EQUAL u_LESS u_LESS_EQUAL u_GREATER u_GREATER_EQUAL h0 n0 _ T170.heap _
      rw [eh170]
      exact ⟨rfl, N170⟩
  · skip
    obtain ⟨cl172, Ar172, qc172, Sz172, Nn172, Hh172, Gg172⟩ := V132
    have hin172 : ¬ ((4 : Int32) < 0 ∨ cl172.slots.size ≤ ((4 : Int32)).toNatClampNeg) := inb_of Sz172 ⟨by decide, by decide⟩
    obtain ⟨cq173, kq173, q173a, q173b, q173c⟩ := isOf hZ e132 F142
    obtain ⟨_, _, ⟨T173, L173, k173, n173⟩, -, X173, ⟨Lc173, hQ173, l173, y173, z173⟩, st173⟩ := X132.virtualBack hx (y := (⟨"com/example/chop/chop/model/Relation", "isStrict", "()Z"⟩ : MethodName)) (z := (⟨"com/example/chop/chop/model/Relation", "isStrict", "()Z"⟩ : MethodName)) hown (mvT hZ (hw _ (List.mem_of_getElem? (i := 17) rfl))) (mvT hZ (hw _ (List.mem_of_getElem? (i := 18) rfl))) (notFace_of_selects (args := #[]) (mvT hZ (hw _ (List.mem_of_getElem? (i := 20) rfl)))) (mvT hZ (hw _ (List.mem_of_getElem? (i := 20) rfl))) (mvT hZ (hw _ (List.mem_of_getElem? (i := 19) rfl))) (by decide) (backOf (W := 0) (rm19 l Z a0 hw [] u_GREATER u_LESS h132 n0 Zs132 F137 F141 (Ne.symm ne_LESS_GREATER)) hZ (hw _ (List.mem_of_getElem? (i := 21) rfl)) (hw _ (List.mem_of_getElem? (i := 3) rfl)) (by decide) (by decide)) q173a q173c (g := (mkF m 72 #[.val (.int p0_0), .val (.ref b1), .val (.int (4 : Int32)), .val (.ref u_GREATER), .val (.int (1 : Int32)), .unset, .unset] [(.ref u_GREATER)])) rfl (by rw [hml]; rfl) (Steps.refl _) (argsL := []) (rest := []) (lenOf pd_1 rfl) rfl (by show 2 * 0 + _ ≤ _; exact Nat.le_of_eq rfl) (hb hby at_72) (fun _ _ => ⟨rfl, e132, (by decide : 1 + 0 ≤ _), (by decide : 6 + 0 ≤ _)⟩)
    dsimp only [Pt.U, Pt.locs, Pt.cells, Pt.slots] at X173 l173 y173 z173 st173 hQ173
    subst l173 y173 z173
    obtain ⟨rfl, N173q, eh173⟩ := hQ173
    have N173 := Fr.app N132 N173q
    obtain ⟨cq174, kq174, q174a, q174b, q174c⟩ := isOf hZ eh173 F142
    obtain ⟨_, _, ⟨T174, L174, k174, n174⟩, -, X174, ⟨Lc174, hQ174, l174, y174, z174⟩, st174⟩ := X173.virtualBack hx (y := (⟨"com/example/chop/chop/model/Relation", "isBound", "()Z"⟩ : MethodName)) (z := (⟨"com/example/chop/chop/model/Relation", "isBound", "()Z"⟩ : MethodName)) hown (mvT hZ (hw _ (List.mem_of_getElem? (i := 24) rfl))) (mvT hZ (hw _ (List.mem_of_getElem? (i := 25) rfl))) (notFace_of_selects (args := #[]) (mvT hZ (hw _ (List.mem_of_getElem? (i := 27) rfl)))) (mvT hZ (hw _ (List.mem_of_getElem? (i := 27) rfl))) (mvT hZ (hw _ (List.mem_of_getElem? (i := 26) rfl))) (by decide) (backOf (W := 0) (rm18 l Z a0 hw [] u_GREATER u_EQUAL u_NOT_EQUAL h132 n0 Zs132 F133 F135 (Ne.symm ne_EQUAL_GREATER) (Ne.symm ne_NOT_EQUAL_GREATER)) hZ (hw _ (List.mem_of_getElem? (i := 28) rfl)) (hw _ (List.mem_of_getElem? (i := 3) rfl)) (by decide) (by decide)) q174a q174c (g := (mkF m 78 #[.val (.int p0_0), .val (.ref b1), .val (.int (4 : Int32)), .val (.ref u_GREATER), .val (.int (1 : Int32)), .val (.int (1 : Int32)), .unset] [(.ref u_GREATER)])) rfl (by rw [hml]; rfl) (Steps.refl _) (argsL := []) (rest := []) (lenOf pd_1 rfl) rfl (by show 2 * 0 + _ ≤ _; exact Nat.le_of_eq rfl) (hb hby at_78) (fun _ _ => ⟨rfl, eh173, (by decide : 1 + 0 ≤ _), (by decide : 6 + 0 ≤ _)⟩)
    dsimp only [Pt.U, Pt.locs, Pt.cells, Pt.slots] at X174 l174 y174 z174 st174 hQ174
    subst l174 y174 z174
    obtain ⟨rfl, N174q, eh174⟩ := hQ174
    have N174 := Fr.app N173 N174q
    obtain ⟨cq175, kq175, q175a, q175b, q175c⟩ := isOf hZ eh174 F142
    obtain ⟨_, _, ⟨T175, L175, k175, n175⟩, -, X175, ⟨Lc175, hQ175, l175, y175, z175⟩, st175⟩ := X174.virtualBack hx (y := (⟨"com/example/chop/chop/model/Relation", "holds", "(I)Z"⟩ : MethodName)) (z := (⟨"com/example/chop/chop/model/Relation", "holds", "(I)Z"⟩ : MethodName)) hown (mvT hZ (hw _ (List.mem_of_getElem? (i := 31) rfl))) (mvT hZ (hw _ (List.mem_of_getElem? (i := 32) rfl))) (notFace_of_selects (args := #[]) (mvT hZ (hw _ (List.mem_of_getElem? (i := 34) rfl)))) (mvT hZ (hw _ (List.mem_of_getElem? (i := 34) rfl))) (mvT hZ (hw _ (List.mem_of_getElem? (i := 33) rfl))) (by decide) (backOf (W := 0) (rm20 l Z a0 hw [] u_GREATER h132 n0 Zs132 F142 F147) hZ (hw _ (List.mem_of_getElem? (i := 35) rfl)) (hw _ (List.mem_of_getElem? (i := 3) rfl)) (by decide) (by decide)) q175a q175c (g := (mkF m 86 #[.val (.int p0_0), .val (.ref b1), .val (.int (4 : Int32)), .val (.ref u_GREATER), .val (.int (1 : Int32)), .val (.int (1 : Int32)), .unset] [(.int (0 : Int32)), (.ref u_GREATER)])) rfl (by rw [hml]; rfl) (Steps.refl _) (argsL := [(.int (0 : Int32))]) (rest := []) (lenOf pd_2 rfl) rfl (by show 2 * 0 + _ ≤ _; exact Nat.le_of_eq rfl) (hb hby at_86) (fun _ _ => ⟨rfl, eh174, (by decide : 1 + 0 ≤ _), (by decide : 6 + 0 ≤ _)⟩)
    dsimp only [Pt.U, Pt.locs, Pt.cells, Pt.slots] at X175 l175 y175 z175 st175 hQ175
    subst l175 y175 z175
    obtain ⟨rfl, N175q, eh175⟩ := hQ175
    have N175 := Fr.app N174 N175q
    have k176 : ∀ t, Steps p.tables e below (T175.setTop (mkF m 118 #[.val (.int p0_0), .val (.ref b1), .val (.int (4 : Int32)), .val (.ref u_GREATER), .val (.int (1 : Int32)), .val (.int (1 : Int32)), .val (.int (1 : Int32))] [(.int (1 : Int32))])) t → Steps p.tables e below (s₁.setTop (entryFrame m #[(.int p0_0)] maxLocals)) t := by
      intro t k
      refine k152 t ?_
      show Steps p.tables e below (T132.setTop (mkF m 50 #[.val (.int p0_0), .val (.ref b1), .val (.int (4 : Int32)), .unset, .unset, .unset, .unset] [])) _
      refine XS.aloadN X132.here hx rfl (hb hby at_50) rfl rfl ?_
      show Steps p.tables e below (T132.setTop (mkF m 51 #[.val (.int p0_0), .val (.ref b1), .val (.int (4 : Int32)), .unset, .unset, .unset, .unset] [(.ref b1)])) _
      refine XS.iloadN X132.here hx rfl (hb hby at_51) rfl ?_
      show Steps p.tables e below (T132.setTop (mkF m 52 #[.val (.int p0_0), .val (.ref b1), .val (.int (4 : Int32)), .unset, .unset, .unset, .unset] [(.int (4 : Int32)), (.ref b1)])) _
      refine X132.aaload hx (j := (4 : Int32)) (v := (.ref u_GREATER)) (by rw [e132]; exact Ar172.1) (State.isArrayOf_alike hZ.alike Ar172.2.1) rfl Ar172.2.2 hin172 (Hh172.at hin172 rfl) (g := (mkF m 52 #[.val (.int p0_0), .val (.ref b1), .val (.int (4 : Int32)), .unset, .unset, .unset, .unset] [(.int (4 : Int32)), (.ref b1)])) rfl rfl (hb hby at_52) _ ?_
      show Steps p.tables e below (T132.setTop (mkF m 53 #[.val (.int p0_0), .val (.ref b1), .val (.int (4 : Int32)), .unset, .unset, .unset, .unset] [(.ref u_GREATER)])) _
      refine XS.astoreN X132.here hx rfl (hb hby at_53) rfl rfl (l' := #[.val (.int p0_0), .val (.ref b1), .val (.int (4 : Int32)), .val (.ref u_GREATER), .unset, .unset, .unset]) rfl ?_
      show Steps p.tables e below (T132.setTop (mkF m 54 #[.val (.int p0_0), .val (.ref b1), .val (.int (4 : Int32)), .val (.ref u_GREATER), .unset, .unset, .unset] [])) _
      refine XS.iloadN X132.here hx rfl (hb hby at_54) rfl ?_
      show Steps p.tables e below (T132.setTop (mkF m 55 #[.val (.int p0_0), .val (.ref b1), .val (.int (4 : Int32)), .val (.ref u_GREATER), .unset, .unset, .unset] [(.int (4 : Int32))])) _
      refine XS.iconst X132.here hx rfl (hb hby at_55) ?_
      show Steps p.tables e below (T132.setTop (mkF m 56 #[.val (.int p0_0), .val (.ref b1), .val (.int (4 : Int32)), .val (.ref u_GREATER), .unset, .unset, .unset] [(.int (2 : Int32)), (.int (4 : Int32))])) _
      refine XS.icmpNo X132.here hx rfl (hb hby at_56) rfl (feq (by decide : ¬ ((4 : Int32) = (2 : Int32)))).1 ?_
      show Steps p.tables e below (T132.setTop (mkF m 59 #[.val (.int p0_0), .val (.ref b1), .val (.int (4 : Int32)), .val (.ref u_GREATER), .unset, .unset, .unset] [])) _
      refine XS.iloadN X132.here hx rfl (hb hby at_59) rfl ?_
      show Steps p.tables e below (T132.setTop (mkF m 60 #[.val (.int p0_0), .val (.ref b1), .val (.int (4 : Int32)), .val (.ref u_GREATER), .unset, .unset, .unset] [(.int (4 : Int32))])) _
      refine XS.iconst X132.here hx rfl (hb hby at_60) ?_
      show Steps p.tables e below (T132.setTop (mkF m 61 #[.val (.int p0_0), .val (.ref b1), .val (.int (4 : Int32)), .val (.ref u_GREATER), .unset, .unset, .unset] [(.int (4 : Int32)), (.int (4 : Int32))])) _
      refine XS.icmpNo X132.here hx rfl (hb hby at_61) rfl (teq (by decide : (4 : Int32) = (4 : Int32))).2 ?_
      show Steps p.tables e below (T132.setTop (mkF m 64 #[.val (.int p0_0), .val (.ref b1), .val (.int (4 : Int32)), .val (.ref u_GREATER), .unset, .unset, .unset] [])) _
      refine XS.iconst X132.here hx rfl (hb hby at_64) ?_
      show Steps p.tables e below (T132.setTop (mkF m 65 #[.val (.int p0_0), .val (.ref b1), .val (.int (4 : Int32)), .val (.ref u_GREATER), .unset, .unset, .unset] [(.int (1 : Int32))])) _
      refine XS.goto X132.here hx rfl (pc0 := 65) (pc' := 69) rfl (hb hby at_65) (by decide) (by decide) ?_
      show Steps p.tables e below (T132.setTop (mkF m 69 #[.val (.int p0_0), .val (.ref b1), .val (.int (4 : Int32)), .val (.ref u_GREATER), .unset, .unset, .unset] [(.int (1 : Int32))])) _
      refine XS.istore X132.here hx rfl (hb hby at_69) rfl (l' := #[.val (.int p0_0), .val (.ref b1), .val (.int (4 : Int32)), .val (.ref u_GREATER), .val (.int (1 : Int32)), .unset, .unset]) rfl ?_
      show Steps p.tables e below (T132.setTop (mkF m 71 #[.val (.int p0_0), .val (.ref b1), .val (.int (4 : Int32)), .val (.ref u_GREATER), .val (.int (1 : Int32)), .unset, .unset] [])) _
      refine XS.aloadN X132.here hx rfl (hb hby at_71) rfl rfl ?_
      show Steps p.tables e below (T132.setTop (mkF m 72 #[.val (.int p0_0), .val (.ref b1), .val (.int (4 : Int32)), .val (.ref u_GREATER), .val (.int (1 : Int32)), .unset, .unset] [(.ref u_GREATER)])) _
      refine st173.trans ?_
      show Steps p.tables e below (T173.setTop (mkF m 75 #[.val (.int p0_0), .val (.ref b1), .val (.int (4 : Int32)), .val (.ref u_GREATER), .val (.int (1 : Int32)), .unset, .unset] [(.int (1 : Int32))])) _
      refine XS.istore X173.here hx rfl (hb hby at_75) rfl (l' := #[.val (.int p0_0), .val (.ref b1), .val (.int (4 : Int32)), .val (.ref u_GREATER), .val (.int (1 : Int32)), .val (.int (1 : Int32)), .unset]) rfl ?_
      show Steps p.tables e below (T173.setTop (mkF m 77 #[.val (.int p0_0), .val (.ref b1), .val (.int (4 : Int32)), .val (.ref u_GREATER), .val (.int (1 : Int32)), .val (.int (1 : Int32)), .unset] [])) _
      refine XS.aloadN X173.here hx rfl (hb hby at_77) rfl rfl ?_
      show Steps p.tables e below (T173.setTop (mkF m 78 #[.val (.int p0_0), .val (.ref b1), .val (.int (4 : Int32)), .val (.ref u_GREATER), .val (.int (1 : Int32)), .val (.int (1 : Int32)), .unset] [(.ref u_GREATER)])) _
      refine st174.trans ?_
      show Steps p.tables e below (T174.setTop (mkF m 81 #[.val (.int p0_0), .val (.ref b1), .val (.int (4 : Int32)), .val (.ref u_GREATER), .val (.int (1 : Int32)), .val (.int (1 : Int32)), .unset] [(.int (1 : Int32))])) _
      refine XS.ifNo X174.here hx rfl (hb hby at_81) rfl ((if0 _ _).trans (feq (by decide : ¬ ((1 : Int32) = (0 : Int32)))).1) ?_
      show Steps p.tables e below (T174.setTop (mkF m 84 #[.val (.int p0_0), .val (.ref b1), .val (.int (4 : Int32)), .val (.ref u_GREATER), .val (.int (1 : Int32)), .val (.int (1 : Int32)), .unset] [])) _
      refine XS.aloadN X174.here hx rfl (hb hby at_84) rfl rfl ?_
      show Steps p.tables e below (T174.setTop (mkF m 85 #[.val (.int p0_0), .val (.ref b1), .val (.int (4 : Int32)), .val (.ref u_GREATER), .val (.int (1 : Int32)), .val (.int (1 : Int32)), .unset] [(.ref u_GREATER)])) _
      refine XS.iconst X174.here hx rfl (hb hby at_85) ?_
      show Steps p.tables e below (T174.setTop (mkF m 86 #[.val (.int p0_0), .val (.ref b1), .val (.int (4 : Int32)), .val (.ref u_GREATER), .val (.int (1 : Int32)), .val (.int (1 : Int32)), .unset] [(.int (0 : Int32)), (.ref u_GREATER)])) _
      refine st175.trans ?_
      show Steps p.tables e below (T175.setTop (mkF m 89 #[.val (.int p0_0), .val (.ref b1), .val (.int (4 : Int32)), .val (.ref u_GREATER), .val (.int (1 : Int32)), .val (.int (1 : Int32)), .unset] [(.int (0 : Int32))])) _
      refine XS.ifNo X175.here hx rfl (hb hby at_89) rfl ((if0 _ _).trans (teq (by decide : (0 : Int32) = (0 : Int32))).2) ?_
      show Steps p.tables e below (T175.setTop (mkF m 92 #[.val (.int p0_0), .val (.ref b1), .val (.int (4 : Int32)), .val (.ref u_GREATER), .val (.int (1 : Int32)), .val (.int (1 : Int32)), .unset] [])) _
      refine XS.iconst X175.here hx rfl (hb hby at_92) ?_
      show Steps p.tables e below (T175.setTop (mkF m 93 #[.val (.int p0_0), .val (.ref b1), .val (.int (4 : Int32)), .val (.ref u_GREATER), .val (.int (1 : Int32)), .val (.int (1 : Int32)), .unset] [(.int (1 : Int32))])) _
      refine XS.goto X175.here hx rfl (pc0 := 93) (pc' := 97) rfl (hb hby at_93) (by decide) (by decide) ?_
      show Steps p.tables e below (T175.setTop (mkF m 97 #[.val (.int p0_0), .val (.ref b1), .val (.int (4 : Int32)), .val (.ref u_GREATER), .val (.int (1 : Int32)), .val (.int (1 : Int32)), .unset] [(.int (1 : Int32))])) _
      refine XS.istore X175.here hx rfl (hb hby at_97) rfl (l' := #[.val (.int p0_0), .val (.ref b1), .val (.int (4 : Int32)), .val (.ref u_GREATER), .val (.int (1 : Int32)), .val (.int (1 : Int32)), .val (.int (1 : Int32))]) rfl ?_
      show Steps p.tables e below (T175.setTop (mkF m 99 #[.val (.int p0_0), .val (.ref b1), .val (.int (4 : Int32)), .val (.ref u_GREATER), .val (.int (1 : Int32)), .val (.int (1 : Int32)), .val (.int (1 : Int32))] [])) _
      refine XS.iload X175.here hx rfl (hb hby at_99) rfl ?_
      show Steps p.tables e below (T175.setTop (mkF m 101 #[.val (.int p0_0), .val (.ref b1), .val (.int (4 : Int32)), .val (.ref u_GREATER), .val (.int (1 : Int32)), .val (.int (1 : Int32)), .val (.int (1 : Int32))] [(.int (1 : Int32))])) _
      refine XS.iload X175.here hx rfl (hb hby at_101) rfl ?_
      show Steps p.tables e below (T175.setTop (mkF m 103 #[.val (.int p0_0), .val (.ref b1), .val (.int (4 : Int32)), .val (.ref u_GREATER), .val (.int (1 : Int32)), .val (.int (1 : Int32)), .val (.int (1 : Int32))] [(.int (1 : Int32)), (.int (1 : Int32))])) _
      refine XS.icmpNo X175.here hx rfl (hb hby at_103) rfl (teq (by decide : (1 : Int32) = (1 : Int32))).2 ?_
      show Steps p.tables e below (T175.setTop (mkF m 106 #[.val (.int p0_0), .val (.ref b1), .val (.int (4 : Int32)), .val (.ref u_GREATER), .val (.int (1 : Int32)), .val (.int (1 : Int32)), .val (.int (1 : Int32))] [])) _
      refine XS.iload X175.here hx rfl (hb hby at_106) rfl ?_
      show Steps p.tables e below (T175.setTop (mkF m 108 #[.val (.int p0_0), .val (.ref b1), .val (.int (4 : Int32)), .val (.ref u_GREATER), .val (.int (1 : Int32)), .val (.int (1 : Int32)), .val (.int (1 : Int32))] [(.int (1 : Int32))])) _
      refine XS.iload X175.here hx rfl (hb hby at_108) rfl ?_
      show Steps p.tables e below (T175.setTop (mkF m 110 #[.val (.int p0_0), .val (.ref b1), .val (.int (4 : Int32)), .val (.ref u_GREATER), .val (.int (1 : Int32)), .val (.int (1 : Int32)), .val (.int (1 : Int32))] [(.int (1 : Int32)), (.int (1 : Int32))])) _
      refine XS.icmpNo X175.here hx rfl (hb hby at_110) rfl (teq (by decide : (1 : Int32) = (1 : Int32))).2 ?_
      show Steps p.tables e below (T175.setTop (mkF m 113 #[.val (.int p0_0), .val (.ref b1), .val (.int (4 : Int32)), .val (.ref u_GREATER), .val (.int (1 : Int32)), .val (.int (1 : Int32)), .val (.int (1 : Int32))] [])) _
      refine XS.iconst X175.here hx rfl (hb hby at_113) ?_
      show Steps p.tables e below (T175.setTop (mkF m 114 #[.val (.int p0_0), .val (.ref b1), .val (.int (4 : Int32)), .val (.ref u_GREATER), .val (.int (1 : Int32)), .val (.int (1 : Int32)), .val (.int (1 : Int32))] [(.int (1 : Int32))])) _
      refine XS.goto X175.here hx rfl (pc0 := 114) (pc' := 118) rfl (hb hby at_114) (by decide) (by decide) ?_
      exact k
    obtain ⟨fs, hr, hrun, hended, hW, hsame⟩ := X175.leave (v := some (.int (1 : Int32))) (fun h => by rw [Bd.returns] at h; cases h)
    refine ⟨_, _, k176 _ ?_, hrun, hended, _, _, rfl, ?_, ⟨_, rfl⟩, hW, hsame.mono (by decide) (by decide)⟩
    · exact retN X175 hx (t := .boolean) Bd.returns (by simp) (hb hby at_118) hr
    · show Q0 Z p0_0 u_EQUAL u_NOT_EQUAL u_LESS u_LESS_EQUAL u_GREATER u_GREATER_EQUAL h0 n0 _ T175.heap _
      rw [eh175]
      exact ⟨rfl, N175⟩
  · skip
    obtain ⟨cl177, Ar177, qc177, Sz177, Nn177, Hh177, Gg177⟩ := V132
    have hin177 : ¬ ((5 : Int32) < 0 ∨ cl177.slots.size ≤ ((5 : Int32)).toNatClampNeg) := inb_of Sz177 ⟨by decide, by decide⟩
    obtain ⟨cq178, kq178, q178a, q178b, q178c⟩ := isOf hZ e132 F144
    obtain ⟨_, _, ⟨T178, L178, k178, n178⟩, -, X178, ⟨Lc178, hQ178, l178, y178, z178⟩, st178⟩ := X132.virtualBack hx (y := (⟨"com/example/chop/chop/model/Relation", "isStrict", "()Z"⟩ : MethodName)) (z := (⟨"com/example/chop/chop/model/Relation", "isStrict", "()Z"⟩ : MethodName)) hown (mvT hZ (hw _ (List.mem_of_getElem? (i := 17) rfl))) (mvT hZ (hw _ (List.mem_of_getElem? (i := 18) rfl))) (notFace_of_selects (args := #[]) (mvT hZ (hw _ (List.mem_of_getElem? (i := 20) rfl)))) (mvT hZ (hw _ (List.mem_of_getElem? (i := 20) rfl))) (mvT hZ (hw _ (List.mem_of_getElem? (i := 19) rfl))) (by decide) (backOf (W := 0) (rm23 l Z a0 hw [] u_GREATER_EQUAL u_LESS u_GREATER h132 n0 Zs132 F137 F141 (Ne.symm ne_LESS_GREATER_EQUAL) (Ne.symm ne_GREATER_GREATER_EQUAL)) hZ (hw _ (List.mem_of_getElem? (i := 21) rfl)) (hw _ (List.mem_of_getElem? (i := 3) rfl)) (by decide) (by decide)) q178a q178c (g := (mkF m 72 #[.val (.int p0_0), .val (.ref b1), .val (.int (5 : Int32)), .val (.ref u_GREATER_EQUAL), .val (.int (0 : Int32)), .unset, .unset] [(.ref u_GREATER_EQUAL)])) rfl (by rw [hml]; rfl) (Steps.refl _) (argsL := []) (rest := []) (lenOf pd_1 rfl) rfl (by show 2 * 0 + _ ≤ _; exact Nat.le_of_eq rfl) (hb hby at_72) (fun _ _ => ⟨rfl, e132, (by decide : 1 + 0 ≤ _), (by decide : 6 + 0 ≤ _)⟩)
    dsimp only [Pt.U, Pt.locs, Pt.cells, Pt.slots] at X178 l178 y178 z178 st178 hQ178
    subst l178 y178 z178
    obtain ⟨rfl, N178q, eh178⟩ := hQ178
    have N178 := Fr.app N132 N178q
    obtain ⟨cq179, kq179, q179a, q179b, q179c⟩ := isOf hZ eh178 F144
    obtain ⟨_, _, ⟨T179, L179, k179, n179⟩, -, X179, ⟨Lc179, hQ179, l179, y179, z179⟩, st179⟩ := X178.virtualBack hx (y := (⟨"com/example/chop/chop/model/Relation", "isBound", "()Z"⟩ : MethodName)) (z := (⟨"com/example/chop/chop/model/Relation", "isBound", "()Z"⟩ : MethodName)) hown (mvT hZ (hw _ (List.mem_of_getElem? (i := 24) rfl))) (mvT hZ (hw _ (List.mem_of_getElem? (i := 25) rfl))) (notFace_of_selects (args := #[]) (mvT hZ (hw _ (List.mem_of_getElem? (i := 27) rfl)))) (mvT hZ (hw _ (List.mem_of_getElem? (i := 27) rfl))) (mvT hZ (hw _ (List.mem_of_getElem? (i := 26) rfl))) (by decide) (backOf (W := 0) (rm22 l Z a0 hw [] u_GREATER_EQUAL u_EQUAL u_NOT_EQUAL h132 n0 Zs132 F133 F135 (Ne.symm ne_EQUAL_GREATER_EQUAL) (Ne.symm ne_NOT_EQUAL_GREATER_EQUAL)) hZ (hw _ (List.mem_of_getElem? (i := 28) rfl)) (hw _ (List.mem_of_getElem? (i := 3) rfl)) (by decide) (by decide)) q179a q179c (g := (mkF m 78 #[.val (.int p0_0), .val (.ref b1), .val (.int (5 : Int32)), .val (.ref u_GREATER_EQUAL), .val (.int (0 : Int32)), .val (.int (0 : Int32)), .unset] [(.ref u_GREATER_EQUAL)])) rfl (by rw [hml]; rfl) (Steps.refl _) (argsL := []) (rest := []) (lenOf pd_1 rfl) rfl (by show 2 * 0 + _ ≤ _; exact Nat.le_of_eq rfl) (hb hby at_78) (fun _ _ => ⟨rfl, eh178, (by decide : 1 + 0 ≤ _), (by decide : 6 + 0 ≤ _)⟩)
    dsimp only [Pt.U, Pt.locs, Pt.cells, Pt.slots] at X179 l179 y179 z179 st179 hQ179
    subst l179 y179 z179
    obtain ⟨rfl, N179q, eh179⟩ := hQ179
    have N179 := Fr.app N178 N179q
    obtain ⟨cq180, kq180, q180a, q180b, q180c⟩ := isOf hZ eh179 F144
    obtain ⟨_, _, ⟨T180, L180, k180, n180⟩, -, X180, ⟨Lc180, hQ180, l180, y180, z180⟩, st180⟩ := X179.virtualBack hx (y := (⟨"com/example/chop/chop/model/Relation", "holds", "(I)Z"⟩ : MethodName)) (z := (⟨"com/example/chop/chop/model/Relation", "holds", "(I)Z"⟩ : MethodName)) hown (mvT hZ (hw _ (List.mem_of_getElem? (i := 31) rfl))) (mvT hZ (hw _ (List.mem_of_getElem? (i := 32) rfl))) (notFace_of_selects (args := #[]) (mvT hZ (hw _ (List.mem_of_getElem? (i := 34) rfl)))) (mvT hZ (hw _ (List.mem_of_getElem? (i := 34) rfl))) (mvT hZ (hw _ (List.mem_of_getElem? (i := 33) rfl))) (by decide) (backOf (W := 0) (rm24 l Z a0 hw [] u_GREATER_EQUAL h132 n0 Zs132 F144 F150) hZ (hw _ (List.mem_of_getElem? (i := 35) rfl)) (hw _ (List.mem_of_getElem? (i := 3) rfl)) (by decide) (by decide)) q180a q180c (g := (mkF m 86 #[.val (.int p0_0), .val (.ref b1), .val (.int (5 : Int32)), .val (.ref u_GREATER_EQUAL), .val (.int (0 : Int32)), .val (.int (0 : Int32)), .unset] [(.int (0 : Int32)), (.ref u_GREATER_EQUAL)])) rfl (by rw [hml]; rfl) (Steps.refl _) (argsL := [(.int (0 : Int32))]) (rest := []) (lenOf pd_2 rfl) rfl (by show 2 * 0 + _ ≤ _; exact Nat.le_of_eq rfl) (hb hby at_86) (fun _ _ => ⟨rfl, eh179, (by decide : 1 + 0 ≤ _), (by decide : 6 + 0 ≤ _)⟩)
    dsimp only [Pt.U, Pt.locs, Pt.cells, Pt.slots] at X180 l180 y180 z180 st180 hQ180
    subst l180 y180 z180
    obtain ⟨rfl, N180q, eh180⟩ := hQ180
    have N180 := Fr.app N179 N180q
    have k181 : ∀ t, Steps p.tables e below (T180.setTop (mkF m 118 #[.val (.int p0_0), .val (.ref b1), .val (.int (5 : Int32)), .val (.ref u_GREATER_EQUAL), .val (.int (0 : Int32)), .val (.int (0 : Int32)), .val (.int (0 : Int32))] [(.int (1 : Int32))])) t → Steps p.tables e below (s₁.setTop (entryFrame m #[(.int p0_0)] maxLocals)) t := by
      intro t k
      refine k152 t ?_
      show Steps p.tables e below (T132.setTop (mkF m 50 #[.val (.int p0_0), .val (.ref b1), .val (.int (5 : Int32)), .unset, .unset, .unset, .unset] [])) _
      refine XS.aloadN X132.here hx rfl (hb hby at_50) rfl rfl ?_
      show Steps p.tables e below (T132.setTop (mkF m 51 #[.val (.int p0_0), .val (.ref b1), .val (.int (5 : Int32)), .unset, .unset, .unset, .unset] [(.ref b1)])) _
      refine XS.iloadN X132.here hx rfl (hb hby at_51) rfl ?_
      show Steps p.tables e below (T132.setTop (mkF m 52 #[.val (.int p0_0), .val (.ref b1), .val (.int (5 : Int32)), .unset, .unset, .unset, .unset] [(.int (5 : Int32)), (.ref b1)])) _
      refine X132.aaload hx (j := (5 : Int32)) (v := (.ref u_GREATER_EQUAL)) (by rw [e132]; exact Ar177.1) (State.isArrayOf_alike hZ.alike Ar177.2.1) rfl Ar177.2.2 hin177 (Hh177.at hin177 rfl) (g := (mkF m 52 #[.val (.int p0_0), .val (.ref b1), .val (.int (5 : Int32)), .unset, .unset, .unset, .unset] [(.int (5 : Int32)), (.ref b1)])) rfl rfl (hb hby at_52) _ ?_
      show Steps p.tables e below (T132.setTop (mkF m 53 #[.val (.int p0_0), .val (.ref b1), .val (.int (5 : Int32)), .unset, .unset, .unset, .unset] [(.ref u_GREATER_EQUAL)])) _
      refine XS.astoreN X132.here hx rfl (hb hby at_53) rfl rfl (l' := #[.val (.int p0_0), .val (.ref b1), .val (.int (5 : Int32)), .val (.ref u_GREATER_EQUAL), .unset, .unset, .unset]) rfl ?_
      show Steps p.tables e below (T132.setTop (mkF m 54 #[.val (.int p0_0), .val (.ref b1), .val (.int (5 : Int32)), .val (.ref u_GREATER_EQUAL), .unset, .unset, .unset] [])) _
      refine XS.iloadN X132.here hx rfl (hb hby at_54) rfl ?_
      show Steps p.tables e below (T132.setTop (mkF m 55 #[.val (.int p0_0), .val (.ref b1), .val (.int (5 : Int32)), .val (.ref u_GREATER_EQUAL), .unset, .unset, .unset] [(.int (5 : Int32))])) _
      refine XS.iconst X132.here hx rfl (hb hby at_55) ?_
      show Steps p.tables e below (T132.setTop (mkF m 56 #[.val (.int p0_0), .val (.ref b1), .val (.int (5 : Int32)), .val (.ref u_GREATER_EQUAL), .unset, .unset, .unset] [(.int (2 : Int32)), (.int (5 : Int32))])) _
      refine XS.icmpNo X132.here hx rfl (hb hby at_56) rfl (feq (by decide : ¬ ((5 : Int32) = (2 : Int32)))).1 ?_
      show Steps p.tables e below (T132.setTop (mkF m 59 #[.val (.int p0_0), .val (.ref b1), .val (.int (5 : Int32)), .val (.ref u_GREATER_EQUAL), .unset, .unset, .unset] [])) _
      refine XS.iloadN X132.here hx rfl (hb hby at_59) rfl ?_
      show Steps p.tables e below (T132.setTop (mkF m 60 #[.val (.int p0_0), .val (.ref b1), .val (.int (5 : Int32)), .val (.ref u_GREATER_EQUAL), .unset, .unset, .unset] [(.int (5 : Int32))])) _
      refine XS.iconst X132.here hx rfl (hb hby at_60) ?_
      show Steps p.tables e below (T132.setTop (mkF m 61 #[.val (.int p0_0), .val (.ref b1), .val (.int (5 : Int32)), .val (.ref u_GREATER_EQUAL), .unset, .unset, .unset] [(.int (4 : Int32)), (.int (5 : Int32))])) _
      refine XS.icmpYes X132.here hx rfl (pc0 := 61) (pc' := 68) rfl (hb hby at_61) rfl (feq (by decide : ¬ ((5 : Int32) = (4 : Int32)))).2 (by decide) (by decide) ?_
      show Steps p.tables e below (T132.setTop (mkF m 68 #[.val (.int p0_0), .val (.ref b1), .val (.int (5 : Int32)), .val (.ref u_GREATER_EQUAL), .unset, .unset, .unset] [])) _
      refine XS.iconst X132.here hx rfl (hb hby at_68) ?_
      show Steps p.tables e below (T132.setTop (mkF m 69 #[.val (.int p0_0), .val (.ref b1), .val (.int (5 : Int32)), .val (.ref u_GREATER_EQUAL), .unset, .unset, .unset] [(.int (0 : Int32))])) _
      refine XS.istore X132.here hx rfl (hb hby at_69) rfl (l' := #[.val (.int p0_0), .val (.ref b1), .val (.int (5 : Int32)), .val (.ref u_GREATER_EQUAL), .val (.int (0 : Int32)), .unset, .unset]) rfl ?_
      show Steps p.tables e below (T132.setTop (mkF m 71 #[.val (.int p0_0), .val (.ref b1), .val (.int (5 : Int32)), .val (.ref u_GREATER_EQUAL), .val (.int (0 : Int32)), .unset, .unset] [])) _
      refine XS.aloadN X132.here hx rfl (hb hby at_71) rfl rfl ?_
      show Steps p.tables e below (T132.setTop (mkF m 72 #[.val (.int p0_0), .val (.ref b1), .val (.int (5 : Int32)), .val (.ref u_GREATER_EQUAL), .val (.int (0 : Int32)), .unset, .unset] [(.ref u_GREATER_EQUAL)])) _
      refine st178.trans ?_
      show Steps p.tables e below (T178.setTop (mkF m 75 #[.val (.int p0_0), .val (.ref b1), .val (.int (5 : Int32)), .val (.ref u_GREATER_EQUAL), .val (.int (0 : Int32)), .unset, .unset] [(.int (0 : Int32))])) _
      refine XS.istore X178.here hx rfl (hb hby at_75) rfl (l' := #[.val (.int p0_0), .val (.ref b1), .val (.int (5 : Int32)), .val (.ref u_GREATER_EQUAL), .val (.int (0 : Int32)), .val (.int (0 : Int32)), .unset]) rfl ?_
      show Steps p.tables e below (T178.setTop (mkF m 77 #[.val (.int p0_0), .val (.ref b1), .val (.int (5 : Int32)), .val (.ref u_GREATER_EQUAL), .val (.int (0 : Int32)), .val (.int (0 : Int32)), .unset] [])) _
      refine XS.aloadN X178.here hx rfl (hb hby at_77) rfl rfl ?_
      show Steps p.tables e below (T178.setTop (mkF m 78 #[.val (.int p0_0), .val (.ref b1), .val (.int (5 : Int32)), .val (.ref u_GREATER_EQUAL), .val (.int (0 : Int32)), .val (.int (0 : Int32)), .unset] [(.ref u_GREATER_EQUAL)])) _
      refine st179.trans ?_
      show Steps p.tables e below (T179.setTop (mkF m 81 #[.val (.int p0_0), .val (.ref b1), .val (.int (5 : Int32)), .val (.ref u_GREATER_EQUAL), .val (.int (0 : Int32)), .val (.int (0 : Int32)), .unset] [(.int (1 : Int32))])) _
      refine XS.ifNo X179.here hx rfl (hb hby at_81) rfl ((if0 _ _).trans (feq (by decide : ¬ ((1 : Int32) = (0 : Int32)))).1) ?_
      show Steps p.tables e below (T179.setTop (mkF m 84 #[.val (.int p0_0), .val (.ref b1), .val (.int (5 : Int32)), .val (.ref u_GREATER_EQUAL), .val (.int (0 : Int32)), .val (.int (0 : Int32)), .unset] [])) _
      refine XS.aloadN X179.here hx rfl (hb hby at_84) rfl rfl ?_
      show Steps p.tables e below (T179.setTop (mkF m 85 #[.val (.int p0_0), .val (.ref b1), .val (.int (5 : Int32)), .val (.ref u_GREATER_EQUAL), .val (.int (0 : Int32)), .val (.int (0 : Int32)), .unset] [(.ref u_GREATER_EQUAL)])) _
      refine XS.iconst X179.here hx rfl (hb hby at_85) ?_
      show Steps p.tables e below (T179.setTop (mkF m 86 #[.val (.int p0_0), .val (.ref b1), .val (.int (5 : Int32)), .val (.ref u_GREATER_EQUAL), .val (.int (0 : Int32)), .val (.int (0 : Int32)), .unset] [(.int (0 : Int32)), (.ref u_GREATER_EQUAL)])) _
      refine st180.trans ?_
      show Steps p.tables e below (T180.setTop (mkF m 89 #[.val (.int p0_0), .val (.ref b1), .val (.int (5 : Int32)), .val (.ref u_GREATER_EQUAL), .val (.int (0 : Int32)), .val (.int (0 : Int32)), .unset] [(.int (1 : Int32))])) _
      refine XS.ifYes X180.here hx rfl (pc0 := 89) (pc' := 96) rfl (hb hby at_89) rfl ((if0 _ _).trans (feq (by decide : ¬ ((1 : Int32) = (0 : Int32)))).2) (by decide) (by decide) ?_
      show Steps p.tables e below (T180.setTop (mkF m 96 #[.val (.int p0_0), .val (.ref b1), .val (.int (5 : Int32)), .val (.ref u_GREATER_EQUAL), .val (.int (0 : Int32)), .val (.int (0 : Int32)), .unset] [])) _
      refine XS.iconst X180.here hx rfl (hb hby at_96) ?_
      show Steps p.tables e below (T180.setTop (mkF m 97 #[.val (.int p0_0), .val (.ref b1), .val (.int (5 : Int32)), .val (.ref u_GREATER_EQUAL), .val (.int (0 : Int32)), .val (.int (0 : Int32)), .unset] [(.int (0 : Int32))])) _
      refine XS.istore X180.here hx rfl (hb hby at_97) rfl (l' := #[.val (.int p0_0), .val (.ref b1), .val (.int (5 : Int32)), .val (.ref u_GREATER_EQUAL), .val (.int (0 : Int32)), .val (.int (0 : Int32)), .val (.int (0 : Int32))]) rfl ?_
      show Steps p.tables e below (T180.setTop (mkF m 99 #[.val (.int p0_0), .val (.ref b1), .val (.int (5 : Int32)), .val (.ref u_GREATER_EQUAL), .val (.int (0 : Int32)), .val (.int (0 : Int32)), .val (.int (0 : Int32))] [])) _
      refine XS.iload X180.here hx rfl (hb hby at_99) rfl ?_
      show Steps p.tables e below (T180.setTop (mkF m 101 #[.val (.int p0_0), .val (.ref b1), .val (.int (5 : Int32)), .val (.ref u_GREATER_EQUAL), .val (.int (0 : Int32)), .val (.int (0 : Int32)), .val (.int (0 : Int32))] [(.int (0 : Int32))])) _
      refine XS.iload X180.here hx rfl (hb hby at_101) rfl ?_
      show Steps p.tables e below (T180.setTop (mkF m 103 #[.val (.int p0_0), .val (.ref b1), .val (.int (5 : Int32)), .val (.ref u_GREATER_EQUAL), .val (.int (0 : Int32)), .val (.int (0 : Int32)), .val (.int (0 : Int32))] [(.int (0 : Int32)), (.int (0 : Int32))])) _
      refine XS.icmpNo X180.here hx rfl (hb hby at_103) rfl (teq (by decide : (0 : Int32) = (0 : Int32))).2 ?_
      show Steps p.tables e below (T180.setTop (mkF m 106 #[.val (.int p0_0), .val (.ref b1), .val (.int (5 : Int32)), .val (.ref u_GREATER_EQUAL), .val (.int (0 : Int32)), .val (.int (0 : Int32)), .val (.int (0 : Int32))] [])) _
      refine XS.iload X180.here hx rfl (hb hby at_106) rfl ?_
      show Steps p.tables e below (T180.setTop (mkF m 108 #[.val (.int p0_0), .val (.ref b1), .val (.int (5 : Int32)), .val (.ref u_GREATER_EQUAL), .val (.int (0 : Int32)), .val (.int (0 : Int32)), .val (.int (0 : Int32))] [(.int (0 : Int32))])) _
      refine XS.iload X180.here hx rfl (hb hby at_108) rfl ?_
      show Steps p.tables e below (T180.setTop (mkF m 110 #[.val (.int p0_0), .val (.ref b1), .val (.int (5 : Int32)), .val (.ref u_GREATER_EQUAL), .val (.int (0 : Int32)), .val (.int (0 : Int32)), .val (.int (0 : Int32))] [(.int (0 : Int32)), (.int (0 : Int32))])) _
      refine XS.icmpNo X180.here hx rfl (hb hby at_110) rfl (teq (by decide : (0 : Int32) = (0 : Int32))).2 ?_
      show Steps p.tables e below (T180.setTop (mkF m 113 #[.val (.int p0_0), .val (.ref b1), .val (.int (5 : Int32)), .val (.ref u_GREATER_EQUAL), .val (.int (0 : Int32)), .val (.int (0 : Int32)), .val (.int (0 : Int32))] [])) _
      refine XS.iconst X180.here hx rfl (hb hby at_113) ?_
      show Steps p.tables e below (T180.setTop (mkF m 114 #[.val (.int p0_0), .val (.ref b1), .val (.int (5 : Int32)), .val (.ref u_GREATER_EQUAL), .val (.int (0 : Int32)), .val (.int (0 : Int32)), .val (.int (0 : Int32))] [(.int (1 : Int32))])) _
      refine XS.goto X180.here hx rfl (pc0 := 114) (pc' := 118) rfl (hb hby at_114) (by decide) (by decide) ?_
      exact k
    obtain ⟨fs, hr, hrun, hended, hW, hsame⟩ := X180.leave (v := some (.int (1 : Int32))) (fun h => by rw [Bd.returns] at h; cases h)
    refine ⟨_, _, k181 _ ?_, hrun, hended, _, _, rfl, ?_, ⟨_, rfl⟩, hW, hsame.mono (by decide) (by decide)⟩
    · exact retN X180 hx (t := .boolean) Bd.returns (by simp) (hb hby at_118) hr
    · show Q0 Z p0_0 u_EQUAL u_NOT_EQUAL u_LESS u_LESS_EQUAL u_GREATER u_GREATER_EQUAL h0 n0 _ T180.heap _
      rw [eh180]
      exact ⟨rfl, N180⟩
set_option maxRecDepth 65536 in
set_option maxHeartbeats 40000000 in
theorem comes_1 {Post : Tables → Env → Array Value → State → Outcome → State → Prop} (hpost : ∀ tb e args s v u, (limb_1_1.after args s (.returned v) u = true ∧ limb_1_2.after args s (.returned v) u = true ∧ True) → FrameEnd s (.returned v) u (Jvm.fieldLocs frame_1_writes args s ++ Jvm.arrayLocs frame_1_arrays args s ++ Jvm.staticLocs frame_1_statics s) 16 128 → Post tb e args s (.returned v) u) :
    ArmFor flags0 classFile x code maxLocals ret World_1 tables_1 room_1 Calls_1 rest_1 Pre_1 Post := by
  intro l hfl _ _ p e ha hc hk s m args below hf hA hF happ hP
  obtain ⟨hcalls, hrest, hpre⟩ := hP
  obtain ⟨-, -, -, hnamed, -, -, -, hat⟩ := (Spec.applies_iff hf).mp happ
  obtain ⟨hg, hn⟩ := and_e (Cond.before_iff.mp (show (Jvm.Cond.and given_1 narrow_1).before args s = true from hpre))
  obtain ⟨gv1, gv2⟩ := and_e hg
  obtain ⟨w0, rfl⟩ : ∃ w0 : Value, args = #[w0] := by
    have hs : args.size = 1 := by simpa [Cond.value, given_1] using gv1
    obtain ⟨L⟩ := args
    match L, hs with
    | [w0], _ => exact ⟨w0, rfl⟩
  have hw := fun d (hd : d ∈ tables_1) => atoms_spec (ws := Jvm.Cond.code x code maxLocals ret :: tables_1) hat d (List.mem_cons_of_mem _ hd)
  have hfit : Fit s := fun {y c} hc i hi => by
    obtain ⟨ha, rfl⟩ := Array.getElem?_eq_some_iff.mp hc
    have q := List.all_eq_true.mp ((Array.all_eq_true_iff_forall_mem.mp hF) _ (Array.getElem_mem ha)) i (List.mem_range.mpr hi)
    simpa [Array.getElem?_eq_getElem hi] using q
  obtain ⟨i0, ei0⟩ := is_v gv2
  obtain rfl : w0 = (.int i0) := Option.some.inj ei0
  obtain ⟨nv1, nv2⟩ := and_e hn
  obtain ⟨nv3, nv4⟩ := and_e nv2
  obtain ⟨nv5, nv6⟩ := and_e nv4
  obtain ⟨nv7, nv8⟩ := and_e nv6
  obtain ⟨nv9, nv10⟩ := and_e nv8
  obtain ⟨nv11, nv12⟩ := and_e nv10
  obtain ⟨nv13, nv14⟩ := and_e nv12
  obtain ⟨nv15, nv16⟩ := and_e nv14
  obtain ⟨nv17, nv18⟩ := and_e nv16
  obtain ⟨nv19, nv20⟩ := and_e nv18
  obtain ⟨nv21, nv22⟩ := and_e nv20
  obtain ⟨u_EQUAL, ev_u_EQUAL, E_u_EQUAL⟩ := own_ex nv1
  have S_EQUAL : Sta s s.heap "com/example/chop/chop/model/Relation" "EQUAL" "Lcom/example/chop/chop/model/Relation;" (.ref u_EQUAL) := Sta.start ev_u_EQUAL (Or.inr ⟨(hw _ (List.mem_of_getElem? (i := 3) rfl)), (hw _ (List.mem_of_getElem? (i := 4) rfl))⟩)
  obtain ⟨u_NOT_EQUAL, ev_u_NOT_EQUAL, E_u_NOT_EQUAL⟩ := own_ex nv3
  have S_NOT_EQUAL : Sta s s.heap "com/example/chop/chop/model/Relation" "NOT_EQUAL" "Lcom/example/chop/chop/model/Relation;" (.ref u_NOT_EQUAL) := Sta.start ev_u_NOT_EQUAL (Or.inr ⟨(hw _ (List.mem_of_getElem? (i := 3) rfl)), (hw _ (List.mem_of_getElem? (i := 7) rfl))⟩)
  obtain ⟨u_LESS, ev_u_LESS, E_u_LESS⟩ := own_ex nv5
  have S_LESS : Sta s s.heap "com/example/chop/chop/model/Relation" "LESS" "Lcom/example/chop/chop/model/Relation;" (.ref u_LESS) := Sta.start ev_u_LESS (Or.inr ⟨(hw _ (List.mem_of_getElem? (i := 3) rfl)), (hw _ (List.mem_of_getElem? (i := 9) rfl))⟩)
  obtain ⟨u_LESS_EQUAL, ev_u_LESS_EQUAL, E_u_LESS_EQUAL⟩ := own_ex nv7
  have S_LESS_EQUAL : Sta s s.heap "com/example/chop/chop/model/Relation" "LESS_EQUAL" "Lcom/example/chop/chop/model/Relation;" (.ref u_LESS_EQUAL) := Sta.start ev_u_LESS_EQUAL (Or.inr ⟨(hw _ (List.mem_of_getElem? (i := 3) rfl)), (hw _ (List.mem_of_getElem? (i := 11) rfl))⟩)
  obtain ⟨u_GREATER, ev_u_GREATER, E_u_GREATER⟩ := own_ex nv9
  have S_GREATER : Sta s s.heap "com/example/chop/chop/model/Relation" "GREATER" "Lcom/example/chop/chop/model/Relation;" (.ref u_GREATER) := Sta.start ev_u_GREATER (Or.inr ⟨(hw _ (List.mem_of_getElem? (i := 3) rfl)), (hw _ (List.mem_of_getElem? (i := 13) rfl))⟩)
  obtain ⟨u_GREATER_EQUAL, ev_u_GREATER_EQUAL, E_u_GREATER_EQUAL⟩ := own_ex nv11
  have S_GREATER_EQUAL : Sta s s.heap "com/example/chop/chop/model/Relation" "GREATER_EQUAL" "Lcom/example/chop/chop/model/Relation;" (.ref u_GREATER_EQUAL) := Sta.start ev_u_GREATER_EQUAL (Or.inr ⟨(hw _ (List.mem_of_getElem? (i := 3) rfl)), (hw _ (List.mem_of_getElem? (i := 15) rfl))⟩)
  have e_1 := own_evI nv13
  have F_u_EQUAL_ordinal : Fld s s.heap u_EQUAL "java/lang/Enum" "ordinal" "I" (.int (0 : Int32)) := own_fldV ev_u_EQUAL e_1
  have e_2 := own_evI nv15
  have F_u_LESS_ordinal : Fld s s.heap u_LESS "java/lang/Enum" "ordinal" "I" (.int (2 : Int32)) := own_fldV ev_u_LESS e_2
  have e_3 := own_evI nv17
  have F_u_GREATER_ordinal : Fld s s.heap u_GREATER "java/lang/Enum" "ordinal" "I" (.int (4 : Int32)) := own_fldV ev_u_GREATER e_3
  have e_4 := own_evI nv19
  have F_u_LESS_EQUAL_ordinal : Fld s s.heap u_LESS_EQUAL "java/lang/Enum" "ordinal" "I" (.int (3 : Int32)) := own_fldV ev_u_LESS_EQUAL e_4
  have e_5 := own_evI nv21
  have F_u_NOT_EQUAL_ordinal : Fld s s.heap u_NOT_EQUAL "java/lang/Enum" "ordinal" "I" (.int (1 : Int32)) := own_fldV ev_u_NOT_EQUAL e_5
  have e_6 := own_evI nv22
  have F_u_GREATER_EQUAL_ordinal : Fld s s.heap u_GREATER_EQUAL "java/lang/Enum" "ordinal" "I" (.int (5 : Int32)) := own_fldV ev_u_GREATER_EQUAL e_6
  obtain ⟨n, o, h1, h2, h3, _, L, rfl, ⟨rfl, N⟩, hq⟩ := rm0 l s _ hw tables_1 i0 u_EQUAL u_NOT_EQUAL u_LESS u_LESS_EQUAL u_GREATER u_GREATER_EQUAL s.heap s.heap.size (Nat.le_refl _) S_EQUAL E_u_EQUAL S_NOT_EQUAL E_u_NOT_EQUAL S_LESS E_u_LESS S_LESS_EQUAL E_u_LESS_EQUAL S_GREATER E_u_GREATER S_GREATER_EQUAL E_u_GREATER_EQUAL F_u_EQUAL_ordinal F_u_LESS_ordinal F_u_GREATER_ordinal F_u_LESS_EQUAL_ordinal F_u_NOT_EQUAL_ordinal F_u_GREATER_EQUAL_ordinal p e ha hc hk s m _ below hf ((Spec.applies_iff_loose hf).mp happ).1 ⟨rfl, State.Warmed39.refl s, rfl⟩ trivial
  refine ⟨n, _, h1, h2, h3, hpost _ _ _ _ _ _ ⟨Cond.after_iff.mpr rfl, Cond.after_iff.mpr (eq_i res_at (Term.int_eval (1)) rfl), trivial⟩ ⟨hq.1, hq.2.1, (hq.2.2.sift fun y hy => Or.inr (N y hy)).mono (by decide) (by decide)⟩⟩
theorem main_1_1 : Claimed_1_1 := comes_1 fun _ _ _ _ _ _ h hF => ⟨h.1, hF⟩
theorem main_1_2 : Claimed_1_2 := comes_1 fun _ _ _ _ _ _ h hF => ⟨h.2.1, hF⟩
end Jvm.Pilot.@@N@@
namespace Jvm.Pilot.@@N@@
open Jvm Jvm.ClassFile Sem Op Lib Jvm.Free Jvm.Stand Jvm.Pilot.@@N@@.Jvm.D
/-! MADE BY PROGRAM (witnessworld.py) out of the Statement's table words and the real class files: 13 classes; the members and pool entries that the words name. The judged class is class 1, her method 1. -/
namespace start1
open Jvm.ClassFile
def u (s : String) : CpInfo := .utf8 (stringToUtf16 s)
/-- a pool by its gaps: so many unusable entries, then the entry; so many at the end -/
def gap : Nat → List CpInfo → List CpInfo
  | 0, r => r
  | n + 1, r => .unusable :: gap n r
def poolList (es : List (Nat × CpInfo)) (last : Nat) : List CpInfo := es.foldr (fun e r => gap e.1 (e.2 :: r)) (gap last [])
def pool (es : List (Nat × CpInfo)) (last : Nat) : Array CpInfo := ⟨poolList es last⟩
def fileOf (pool : Array CpInfo) (this : Nat) (attrs : Array Attribute := #[]) (ms : Array MethodInfo := #[]) (fl : Nat := 33) (sup : Nat := 0) (ifs : Array Nat := #[]) (fds : Array FieldInfo := #[]) : ClassFile where
  minorVersion := 0
  majorVersion := 65
  constantPool := pool
  accessFlags := fl
  thisClass := this
  superClass := sup
  interfaces := ifs
  fields := fds
  methods := ms
  attributes := attrs
def plain (name : String) (sup : Option ClassId) : Class where
  name := name
  kind := .ordinary
  loader := none
  accessFlags := 33
  super := sup
  interfaces := #[]
  cf := none
  fields := #[]
  methods := #[]
  instanceTypes := #[]
  staticTypes := #[]
  resolved := #[]
  callSites := []
  init := .initialized
  statics := none
  mirror := none

def pool0 : Array CpInfo := pool [(5, u "<init>"), (0, u "()V"), (1, .class_ 10), (1, u "java/lang/Object")] 113

def k0m0 : Method := { name := "<init>", desc := "()V", sig := { parameters := [], returnType := none }, accessFlags := 1, code := none }
/-- java/lang/Object -/
def k0 : Class := { plain "java/lang/Object" none with
  accessFlags := 33
  interfaces := #[]
  cf := some (fileOf pool0 8 #[] #[{ accessFlags := 1, nameIndex := 5, descriptorIndex := 6, attributes := #[] }] 33 0 #[] #[])
  fields := #[]
  methods := #[k0m0]
  instanceTypes := #[]
  staticTypes := #[]
  resolved := Array.replicate 124 none
  statics := none }

def pool1 : Array CpInfo := pool [(2, .class_ 4), (1, u "java/lang/Object"), (0, u "<init>"), (0, u "()V"), (0, .class_ 8), (0, u "com/example/chop/chop/model/Relation"), (0, .fieldref 7 10), (0, .nameAndType 11 12), (0, u "EQUAL"), (0, u "Lcom/example/chop/chop/model/Relation;"), (0, .fieldref 7 14), (0, .nameAndType 15 12), (0, u "NOT_EQUAL"), (0, .fieldref 7 17), (0, .nameAndType 18 12), (0, u "LESS"), (0, .fieldref 7 20), (0, .nameAndType 21 12), (0, u "LESS_EQUAL"), (0, .fieldref 7 23), (0, .nameAndType 24 12), (0, u "GREATER"), (0, .fieldref 7 26), (0, .nameAndType 27 12), (0, u "GREATER_EQUAL"), (0, .integer 2147483647), (0, .methodref 7 30), (0, .nameAndType 31 32), (0, u "isStrict"), (0, u "()Z"), (0, .methodref 7 34), (0, .nameAndType 35 32), (0, u "isBound"), (0, .methodref 7 37), (0, .nameAndType 38 39), (0, u "holds"), (0, u "(I)Z"), (0, .class_ 41), (0, u "com/example/chop/chop/model/RelationIsStrictPinLaw"), (2, u "law")] 5

def k1m0 : Method := { name := "<init>", desc := "()V", sig := { parameters := [], returnType := none }, accessFlags := 1, code := none }
def k1c1 : Code := { maxStack := 4, maxLocals := 7, code := code, exceptionTable := #[], attributes := #[] }
def k1m1 : Method := { name := "law", desc := "(I)Z", sig := { parameters := [.int], returnType := some .boolean }, accessFlags := 9, code := some k1c1 }
/-- com/example/chop/chop/model/RelationIsStrictPinLaw -/
def k1 : Class := { plain "com/example/chop/chop/model/RelationIsStrictPinLaw" (some 0) with
  accessFlags := 49
  interfaces := #[]
  cf := some (fileOf pool1 40 #[] #[{ accessFlags := 1, nameIndex := 5, descriptorIndex := 6, attributes := #[] }, { accessFlags := 9, nameIndex := 44, descriptorIndex := 39, attributes := #[] }] 49 2 #[] #[])
  fields := #[]
  methods := #[k1m0, k1m1]
  instanceTypes := #[]
  staticTypes := #[]
  resolved := Array.replicate 50 none
  statics := none }

def pool2 : Array CpInfo := pool [(1, .class_ 2), (0, u "java/lang/constant/Constable"), (0, .class_ 4), (0, u "java/lang/Object")] 6

/-- java/lang/constant/Constable -/
def k2 : Class := { plain "java/lang/constant/Constable" (some 0) with
  accessFlags := 1537
  interfaces := #[]
  cf := some (fileOf pool2 1 #[] #[] 1537 3 #[] #[])
  fields := #[]
  methods := #[]
  instanceTypes := #[]
  staticTypes := #[]
  resolved := Array.replicate 11 none
  statics := none }

def pool3 : Array CpInfo := pool [(1, .class_ 2), (0, u "java/lang/Comparable"), (0, .class_ 4), (0, u "java/lang/Object")] 7

/-- java/lang/Comparable -/
def k3 : Class := { plain "java/lang/Comparable" (some 0) with
  accessFlags := 1537
  interfaces := #[]
  cf := some (fileOf pool3 1 #[] #[] 1537 3 #[] #[])
  fields := #[]
  methods := #[]
  instanceTypes := #[]
  staticTypes := #[]
  resolved := Array.replicate 12 none
  statics := none }

def pool4 : Array CpInfo := pool [(1, .class_ 2), (0, u "java/io/Serializable"), (0, .class_ 4), (0, u "java/lang/Object")] 2

/-- java/io/Serializable -/
def k4 : Class := { plain "java/io/Serializable" (some 0) with
  accessFlags := 1537
  interfaces := #[]
  cf := some (fileOf pool4 1 #[] #[] 1537 3 #[] #[])
  fields := #[]
  methods := #[]
  instanceTypes := #[]
  staticTypes := #[]
  resolved := Array.replicate 7 none
  statics := none }

def pool5 : Array CpInfo := pool [(2, .class_ 4), (1, u "java/lang/Enum"), (0, u "name"), (0, u "Ljava/lang/String;"), (0, .fieldref 2 8), (0, .nameAndType 9 10), (0, u "ordinal"), (0, u "I"), (1, .class_ 14), (1, u "java/lang/Object"), (4, u "hash"), (86, .class_ 108), (1, u "java/lang/Enum$EnumDesc"), (2, .class_ 112), (0, u "java/lang/constant/Constable"), (0, .class_ 114), (0, u "java/lang/Comparable"), (0, .class_ 116), (0, u "java/io/Serializable"), (9, u "()I")] 77

def k5c0 : Code := { maxStack := 1, maxLocals := 1, code := jdk_37_method_2_code, exceptionTable := #[], attributes := #[] }
def k5m0 : Method := { name := "ordinal", desc := "()I", sig := { parameters := [], returnType := some .int }, accessFlags := 17, code := some k5c0 }
/-- java/lang/Enum -/
def k5 : Class := { plain "java/lang/Enum" (some 0) with
  accessFlags := 1057
  interfaces := #[2, 3, 4]
  cf := some (fileOf pool5 2 #[.nestMembers #[106]] #[{ accessFlags := 17, nameIndex := 9, descriptorIndex := 126, attributes := #[] }] 1057 12 #[111, 113, 115] #[{ accessFlags := 18, nameIndex := 5, descriptorIndex := 6, attributes := #[] }, { accessFlags := 18, nameIndex := 9, descriptorIndex := 10, attributes := #[] }, { accessFlags := 2, nameIndex := 19, descriptorIndex := 10, attributes := #[] }])
  fields := #[{ name := "name", type := (.object "java/lang/String"), accessFlags := 18, slot := 0, constantValue := 0 }, { name := "ordinal", type := .int, accessFlags := 18, slot := 1, constantValue := 0 }, { name := "hash", type := .int, accessFlags := 2, slot := 2, constantValue := 0 }]
  methods := #[k5m0]
  instanceTypes := #[(.object "java/lang/String"), .int, .int]
  staticTypes := #[]
  resolved := Array.replicate 204 none
  statics := none }

def pool6 : Array CpInfo := pool [(1, .class_ 2), (0, u "com/example/chop/chop/model/Relation"), (0, .fieldref 1 4), (0, .nameAndType 5 6), (0, u "EQUAL"), (0, u "Lcom/example/chop/chop/model/Relation;"), (0, .fieldref 1 8), (0, .nameAndType 9 6), (0, u "NOT_EQUAL"), (0, .fieldref 1 11), (0, .nameAndType 12 6), (0, u "LESS"), (2, u "LESS_EQUAL"), (0, .fieldref 1 17), (0, .nameAndType 18 6), (0, u "GREATER"), (2, u "GREATER_EQUAL"), (2, u "$VALUES"), (0, u "[Lcom/example/chop/chop/model/Relation;"), (6, .class_ 34), (1, u "java/lang/Enum"), (8, u "symbol"), (0, u "Ljava/lang/String;"), (2, u "smtLib"), (0, .methodref 1 49), (0, .nameAndType 50 51), (0, u "ordinal"), (0, u "()I"), (40, u "isBound"), (0, u "()Z"), (2, u "isStrict"), (2, u "holds"), (0, u "(I)Z")] 5

def k6c0 : Code := { maxStack := 2, maxLocals := 1, code := prog_4_method_6_code, exceptionTable := #[], attributes := #[] }
def k6m0 : Method := { name := "isBound", desc := "()Z", sig := { parameters := [], returnType := some .boolean }, accessFlags := 1, code := some k6c0 }
def k6c1 : Code := { maxStack := 2, maxLocals := 1, code := prog_4_method_8_code, exceptionTable := #[], attributes := #[] }
def k6m1 : Method := { name := "isStrict", desc := "()Z", sig := { parameters := [], returnType := some .boolean }, accessFlags := 1, code := some k6c1 }
def k6c2 : Code := { maxStack := 4, maxLocals := 2, code := prog_4_method_10_code, exceptionTable := #[], attributes := #[] }
def k6m2 : Method := { name := "holds", desc := "(I)Z", sig := { parameters := [.int], returnType := some .boolean }, accessFlags := 1, code := some k6c2 }
/-- com/example/chop/chop/model/Relation -/
def k6 : Class := { plain "com/example/chop/chop/model/Relation" (some 5) with
  accessFlags := 16433
  interfaces := #[]
  cf := some (fileOf pool6 1 #[] #[{ accessFlags := 1, nameIndex := 92, descriptorIndex := 93, attributes := #[] }, { accessFlags := 1, nameIndex := 96, descriptorIndex := 93, attributes := #[] }, { accessFlags := 1, nameIndex := 99, descriptorIndex := 100, attributes := #[] }] 16433 32 #[] #[{ accessFlags := 16409, nameIndex := 5, descriptorIndex := 6, attributes := #[] }, { accessFlags := 16409, nameIndex := 9, descriptorIndex := 6, attributes := #[] }, { accessFlags := 16409, nameIndex := 12, descriptorIndex := 6, attributes := #[] }, { accessFlags := 16409, nameIndex := 15, descriptorIndex := 6, attributes := #[] }, { accessFlags := 16409, nameIndex := 18, descriptorIndex := 6, attributes := #[] }, { accessFlags := 16409, nameIndex := 21, descriptorIndex := 6, attributes := #[] }, { accessFlags := 18, nameIndex := 43, descriptorIndex := 44, attributes := #[] }, { accessFlags := 18, nameIndex := 47, descriptorIndex := 44, attributes := #[] }, { accessFlags := 4122, nameIndex := 24, descriptorIndex := 25, attributes := #[] }])
  fields := #[{ name := "EQUAL", type := (.object "com/example/chop/chop/model/Relation"), accessFlags := 16409, slot := 0, constantValue := 0 }, { name := "NOT_EQUAL", type := (.object "com/example/chop/chop/model/Relation"), accessFlags := 16409, slot := 1, constantValue := 0 }, { name := "LESS", type := (.object "com/example/chop/chop/model/Relation"), accessFlags := 16409, slot := 2, constantValue := 0 }, { name := "LESS_EQUAL", type := (.object "com/example/chop/chop/model/Relation"), accessFlags := 16409, slot := 3, constantValue := 0 }, { name := "GREATER", type := (.object "com/example/chop/chop/model/Relation"), accessFlags := 16409, slot := 4, constantValue := 0 }, { name := "GREATER_EQUAL", type := (.object "com/example/chop/chop/model/Relation"), accessFlags := 16409, slot := 5, constantValue := 0 }, { name := "symbol", type := (.object "java/lang/String"), accessFlags := 18, slot := 3, constantValue := 0 }, { name := "smtLib", type := (.object "java/lang/String"), accessFlags := 18, slot := 4, constantValue := 0 }, { name := "$VALUES", type := (.array (.object "com/example/chop/chop/model/Relation")), accessFlags := 4122, slot := 6, constantValue := 0 }]
  methods := #[k6m0, k6m1, k6m2]
  instanceTypes := #[(.object "java/lang/String"), .int, .int, (.object "java/lang/String"), (.object "java/lang/String")]
  staticTypes := #[(.object "com/example/chop/chop/model/Relation"), (.object "com/example/chop/chop/model/Relation"), (.object "com/example/chop/chop/model/Relation"), (.object "com/example/chop/chop/model/Relation"), (.object "com/example/chop/chop/model/Relation"), (.object "com/example/chop/chop/model/Relation"), (.array (.object "com/example/chop/chop/model/Relation"))]
  resolved := Array.replicate 106 none
  statics := some 0 }

def pool7 : Array CpInfo := pool [(1, u "java/lang/Cloneable"), (0, .class_ 1), (0, u "java/lang/Object"), (0, .class_ 3)] 3

/-- java/lang/Cloneable -/
def k7 : Class := { plain "java/lang/Cloneable" (some 0) with
  accessFlags := 1537
  interfaces := #[]
  cf := some (fileOf pool7 2 #[] #[] 1537 4 #[] #[])
  fields := #[]
  methods := #[]
  instanceTypes := #[]
  staticTypes := #[]
  resolved := Array.replicate 8 none
  statics := none }

/-- the primitive byte -/
def k8 : Class := { plain "byte" none with kind := .primitive 'B', accessFlags := 0x411 }
/-- [B -/
def k9 : Class := { plain "[B" (some 0) with kind := .array 8 .byte, interfaces := #[7, 4], accessFlags := 1041 }

/-- the primitive int -/
def k10 : Class := { plain "int" none with kind := .primitive 'I', accessFlags := 0x411 }
/-- [I -/
def k11 : Class := { plain "[I" (some 0) with kind := .array 10 .int, interfaces := #[7, 4], accessFlags := 1041 }

/-- [Lcom/example/chop/chop/model/Relation; -/
def k12 : Class := { plain "[Lcom/example/chop/chop/model/Relation;" (some 0) with kind := .array 6 (.object "com/example/chop/chop/model/Relation"), interfaces := #[7, 4], accessFlags := 1041 }

def heap : Heap := #[{ cls := 6, slots := #[.ref 1, .ref 2, .ref 3, .ref 4, .ref 5, .ref 6, .null], vm := .statics 6 },
  { cls := 6, slots := #[.null, .int 0, .int 0, .null, .null], vm := .none },
  { cls := 6, slots := #[.null, .int 1, .int 0, .null, .null], vm := .none },
  { cls := 6, slots := #[.null, .int 2, .int 0, .null, .null], vm := .none },
  { cls := 6, slots := #[.null, .int 3, .int 0, .null, .null], vm := .none },
  { cls := 6, slots := #[.null, .int 4, .int 0, .null, .null], vm := .none },
  { cls := 6, slots := #[.null, .int 5, .int 0, .null, .null], vm := .none }]
def classes : Array Class := #[k0, k1, k2, k3, k4, k5, k6, k7, k8, k9, k10, k11, k12]
def interned : List (Array UInt16 × Addr) := []
def slotsUsed : Nat := 37
def theMethod : MethodId := ⟨1, 1⟩
def args0 : Array Value := #[.int 5]
def aboutOver (below : List Frame) : State where
  vm := { classes := classes, interned := interned.toArray }
  heap := heap
  slotsUsed := slotsUsed
  threads := #[{ frames := .invoking theMethod args0 :: below }]
def below0 : List Frame := [.native { method := ⟨0, 0⟩, args := #[] }]
def about1 : State := aboutOver below0
def p0 : Program := .bare "" "" ""
def e0 : Env := launch0.env 0 0 0
theorem w_frames : about1.frames = Frame.invoking theMethod args0 :: below0 := rfl
set_option maxRecDepth 65536 in
theorem w_args : argsFit about1.vm theMethod args0 = true := by decide +kernel
set_option maxRecDepth 65536 in
theorem w_heap : heapFits about1 = true := by decide +kernel
set_option maxRecDepth 65536 in
theorem w_runnable : about1.curStatus? = some .runnable := by decide +kernel
set_option maxRecDepth 65536 in
theorem w_alone : about1.alone = true := by decide +kernel
set_option maxRecDepth 65536 in
theorem w_named : about1.methodNamed? x = some theMethod := by decide +kernel
set_option maxRecDepth 65536 in
theorem w_hears : about1.hears theMethod below0 = true := by decide +kernel
set_option maxRecDepth 65536 in
theorem w_ripe : about1.ripe theMethod args0 below0 = true := by decide +kernel
theorem w_running : about1.status = .running := rfl
set_option maxRecDepth 65536 in
theorem w_room : about1.hasRoom e0.platform room_1 = true :=
  launch0.hasRoom_least _ room_1 (by decide +kernel) (by decide +kernel) (by decide +kernel) (by decide +kernel) (by decide +kernel) (by decide +kernel)
theorem allAtoms_all (ts : List Jvm.Cond) (a : Array Jvm.Value) (st : Jvm.State) : (allAtoms ts).before a st = ts.all (fun c => c.before a st) := by
  induction ts with
  | nil => rfl
  | cons c t ih =>
    show (Jvm.Cond.and c (allAtoms t)).before a st = _
    rw [Jvm.Cond.before_and, ih, List.all_cons]
def words1 : List Jvm.Cond := Jvm.Cond.code x code maxLocals ret :: tables_1
/-- a 'code' word, met by the world's own term for the bytes: nothing is compared byte by byte -/
theorem code_word {y : MethodName} {bytes : ByteArray} {mx : Nat} {rt : Option FieldType} {a : Array Value} {s : State} {m : MethodId} {meth : Method} {c : Code} (h1 : s.methodNamed? y = some m) (h2 : s.vm.method? m = some meth) (h3 : meth.code = some c) (h4 : c.code = bytes)
    (h5 : (c.maxLocals == mx && c.exceptionTable.isEmpty && decide (c.maxStack ≤ mostOperands) && decide (meth.sig.returnType = rt) && !meth.locks && decide (parseMethodDescriptor y.desc = some meth.sig)) = true) : (Jvm.Cond.code y bytes mx rt).before a s = true := by
  simp only [Bool.and_eq_true, beq_iff_eq, Bool.not_eq_true', decide_eq_true_eq] at h5
  obtain ⟨⟨⟨⟨⟨g1, g2⟩, g3⟩, g4⟩, g5⟩, g6⟩ := h5
  simp [Cond.before, Cond.holds, Cond.value, h1, h2, h3, h4, g1, g2, g3, g4, g5, g6]
def isCode : Jvm.Cond → Bool
  | .code _ _ _ _ => true
  | _ => false
theorem all_split {L : List Jvm.Cond} {P : Jvm.Cond → Bool} (h1 : L.all (fun c => isCode c || P c) = true) (h2 : ∀ c ∈ L.filter isCode, P c = true) : L.all P = true := by
  refine List.all_eq_true.mpr fun c hc => ?_
  have h := List.all_eq_true.mp h1 c hc
  rcases Bool.eq_false_or_eq_true (isCode c) with hi | hi
  · exact h2 c (List.mem_filter.mpr ⟨hc, hi⟩)
  · simpa [hi] using h
set_option maxRecDepth 65536 in
theorem w_c0 : (Jvm.Cond.code x code maxLocals ret).before args0 about1 = true := code_word (m := ⟨1, 1⟩) (meth := k1m1) (c := k1c1) (by decide +kernel) rfl rfl rfl (by decide +kernel)
set_option maxRecDepth 65536 in
theorem w_c1 : (Jvm.Cond.code ({ cls := "com/example/chop/chop/model/Relation", name := "isStrict", desc := "()Z" } : Jvm.MethodName) prog_4_method_8_code (1 : Nat) (Option.some Jvm.ClassFile.FieldType.boolean)).before args0 about1 = true := code_word (m := ⟨6, 1⟩) (meth := k6m1) (c := k6c1) (by decide +kernel) rfl rfl rfl (by decide +kernel)
set_option maxRecDepth 65536 in
theorem w_c2 : (Jvm.Cond.code ({ cls := "com/example/chop/chop/model/Relation", name := "isBound", desc := "()Z" } : Jvm.MethodName) prog_4_method_6_code (1 : Nat) (Option.some Jvm.ClassFile.FieldType.boolean)).before args0 about1 = true := code_word (m := ⟨6, 0⟩) (meth := k6m0) (c := k6c0) (by decide +kernel) rfl rfl rfl (by decide +kernel)
set_option maxRecDepth 65536 in
theorem w_c3 : (Jvm.Cond.code ({ cls := "com/example/chop/chop/model/Relation", name := "holds", desc := "(I)Z" } : Jvm.MethodName) prog_4_method_10_code (2 : Nat) (Option.some Jvm.ClassFile.FieldType.boolean)).before args0 about1 = true := code_word (m := ⟨6, 2⟩) (meth := k6m2) (c := k6c2) (by decide +kernel) rfl rfl rfl (by decide +kernel)
set_option maxRecDepth 65536 in
theorem w_c4 : (Jvm.Cond.code ({ cls := "java/lang/Enum", name := "ordinal", desc := "()I" } : Jvm.MethodName) jdk_37_method_2_code (1 : Nat) (Option.some Jvm.ClassFile.FieldType.int)).before args0 about1 = true := code_word (m := ⟨5, 0⟩) (meth := k5m0) (c := k5c0) (by decide +kernel) rfl rfl rfl (by decide +kernel)
def codes1 : List Jvm.Cond := [Jvm.Cond.code x code maxLocals ret, Jvm.Cond.code ({ cls := "com/example/chop/chop/model/Relation", name := "isStrict", desc := "()Z" } : Jvm.MethodName) prog_4_method_8_code (1 : Nat) (Option.some Jvm.ClassFile.FieldType.boolean), Jvm.Cond.code ({ cls := "com/example/chop/chop/model/Relation", name := "isBound", desc := "()Z" } : Jvm.MethodName) prog_4_method_6_code (1 : Nat) (Option.some Jvm.ClassFile.FieldType.boolean), Jvm.Cond.code ({ cls := "com/example/chop/chop/model/Relation", name := "holds", desc := "(I)Z" } : Jvm.MethodName) prog_4_method_10_code (2 : Nat) (Option.some Jvm.ClassFile.FieldType.boolean), Jvm.Cond.code ({ cls := "java/lang/Enum", name := "ordinal", desc := "()I" } : Jvm.MethodName) jdk_37_method_2_code (1 : Nat) (Option.some Jvm.ClassFile.FieldType.int)]
set_option maxRecDepth 65536 in
theorem codes_eq : words1.filter isCode = codes1 := rfl
theorem w_codes : ∀ c ∈ words1.filter isCode, c.before args0 about1 = true := by
  rw [codes_eq]
  intro c hc
  simp only [codes1, List.mem_cons, List.not_mem_nil, or_false] at hc
  rcases hc with rfl | rfl | rfl | rfl | rfl
  · exact w_c0
  · exact w_c1
  · exact w_c2
  · exact w_c3
  · exact w_c4
set_option maxRecDepth 65536 in
theorem w_t1 : (words1.take 24).all (fun c => isCode c || c.before args0 about1) = true := by decide +kernel
set_option maxRecDepth 65536 in
theorem w_t2 : (words1.drop 24).all (fun c => isCode c || c.before args0 about1) = true := by decide +kernel
theorem w_tables : (allAtoms (Jvm.Cond.code x code maxLocals ret :: tables_1)).before args0 about1 = true := by
  rw [allAtoms_all]
  show words1.all (fun c => c.before args0 about1) = true
  refine all_split ?_ w_codes
  rw [← List.take_append_drop 24 words1, List.all_append, w_t1, w_t2]
  rfl
set_option maxRecDepth 65536 in
theorem w_case : (Jvm.Cond.and given_1 narrow_1).before args0 about1 = true := by decide +kernel
theorem w_applies : (headSpec (Jvm.Cond.code x code maxLocals ret :: tables_1) room_1).applies x e0.platform about1 = true :=
  (Spec.applies_iff w_frames).mpr ⟨w_running, w_runnable, w_alone, w_named, w_hears, w_ripe, w_room, w_tables⟩
theorem atStart : AtStart classFile x code maxLocals ret World_1 tables_1 room_1 Calls_1 rest_1 Pre_1 launch0 p0 e0 about1 theMethod args0 below0 :=
  ⟨lists_1, trivial, launch0.admits_env _ _ _, launch0.least_env, fairChoices_fair.cas, fairChoices_fair.clock, w_frames, w_args, w_heap, w_applies, trivial, trivial, w_case⟩
end start1
theorem witness_1 : WitnessClaimed_1 := ⟨start1.p0, start1.e0, start1.about1, start1.theMethod, start1.args0, start1.below0, start1.atStart⟩
end Jvm.Pilot.@@N@@
