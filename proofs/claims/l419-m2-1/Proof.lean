import JvmDerived
import JvmDerived.Pilot.@@N@@Statement
import JvmDerived.Pilot.@@N@@Code
set_option linter.unusedVariables false
set_option linter.unusedSimpArgs false
namespace Jvm.RoadKit
open Sem ClassFile Op Lib Jvm.Stand Jvm.Free Jvm.LawKit
section New
variable {p : Program} {l : Launch} {e : Env} {R : Room} {s : State} {m : MethodId} {args : Array Value} {below : List Frame} {meth : Method} {c : Code} {T : State} {locs : List Loc} {cells slots : Nat}
theorem retI (X : Stand p l e R s m args below meth c T locs cells slots) (hx : p.tables.exec = Jvm.exec) {pc : Nat} {Ls : Array Slot} {z : Int32} {rest : List Value} (hret : meth.sig.returnType = some .int) (hd : decode c.code pc = .ok (.ireturn, 1)) {fs : List Frame}
    (hl : ∀ (f : JFrame) (acts : List Action), f.method = m → f.locked = none → f.entered = [] → (doReturn e (T.setTop f) acts (some (.int z))).1 = T.setFrames fs) : Steps p.tables e below (T.setTop (mkF m pc Ls (.int z :: rest))) (T.setFrames fs) :=
  retOut X hx hret rfl (Or.inl ⟨rfl, Or.inl rfl, z, rfl⟩) hd hl
end New
end Jvm.RoadKit
namespace Jvm.Pilot.@@N@@
open Jvm Jvm.ClassFile Sem Op Lib Jvm.Free Jvm.Stand Jvm.LawKit Jvm.RoadKit Bundle Jvm.Pilot.@@N@@.Jvm.D
theorem own_selpriv {s : State} {args : Array Value} {y : MethodName} {n : Nat} (hins : (Jvm.Cond.instantiable y.cls n).before args s = true) (hpriv : (Jvm.Cond.privateMethod y).before args s = true) (hinst : (Jvm.Cond.instanceMethod y).before args s = true) (hy : y.cls ≠ "java/lang/invoke/MethodHandle" ∧ y.cls ≠ "java/lang/invoke/VarHandle") :
    (Jvm.Cond.selects y.cls y y).before args s = true := by
  obtain ⟨c, k, hc, hk, -, hniab, -, -⟩ := Cond.instantiable_spec hins
  have hni : k.isInterface = false := (Bool.or_eq_false_iff.mp hniab).1
  obtain ⟨mk, methM, hnamed, hmethM, -, -⟩ := Cond.instanceMethod_spec hinst
  have hfound : s.methodFound? y.cls y.name y.desc = some mk := State.methodFound?_of_named hnamed hy
  have hcls : mk.cls = c := Option.some.inj ((findClass_of_methodNamed hnamed).symm.trans hc)
  have hsel : selectMethod {} s.vm c mk = .method mk := selectMethod_private hmethM (Cond.privateMethod_at hpriv mk methM hnamed hmethM)
  simp only [Cond.before, Cond.holds, Cond.value, hc, hfound, hnamed, hsel, hcls, hk]
  simp; exact hni
theorem own_nsE {Z : State} {h : Heap} {a : Addr} {C : String} (F : Exa Z h a C) : ∀ c : Cell, h[a]? = some c → c.vm.isStatics = false := by
  obtain ⟨c, k, h1, -, -, h4, -⟩ := F
  intro c' hc; cases h1.symm.trans hc; exact h4
theorem own_nsV {Z : State} {h : Heap} {a : Addr} {k : ClassId} {ty : FieldType} {z : Int32} {vs : List Value} {dv : Value} (F : Arv Z h a k ty z vs dv) : ∀ c : Cell, h[a]? = some c → c.vm.isStatics = false := by
  obtain ⟨c, A, -⟩ := F
  intro c' hc; cases A.1.symm.trans hc; exact A.plain
theorem own_stakeep {Z : State} {h h' : Heap} {C n d : String} {v : Value} {ws : List Addr} (F : Sta Z h C n d v) (K : Keep h h' ws) (q : ∀ x ∈ ws, ∀ c : Cell, h[x]? = some c → c.vm.isStatics = false) : Sta Z h' C n d v := by
  obtain ⟨cf, i, k, f, st, cell, h1, h2, h3, h4, h5, h6, h7⟩ := F
  refine ⟨cf, i, k, f, st, cell, h1, h2, h3, h4, K.2.1 _ _ h5 (fun hm => ?_), h6, h7⟩
  rw [q st hm cell h5] at h6; cases h6
theorem own_ex {args : Array Value} {s : State} {t : Term} {C : String} (h : (Jvm.Cond.exactly t C).value args s none s [] = some true) : ∃ a, t.eval args s none [] s = some (.ref a) ∧ Exa s s.heap a C := by
  obtain ⟨a, e1⟩ := exa_v h; exact ⟨a, e1, Exa.start e1 h⟩
theorem own_evI {args : Array Value} {s : State} {t : Term} {z : Int32} (h : (Jvm.Cond.eq t (.int z)).value args s none s [] = some true) : t.eval args s none [] s = some (.int z) := by
  cases hv : t.eval args s none [] s with
  | none => simp [Cond.value, hv] at h
  | some x => cases x <;> simp [Cond.value, Term.eval, hv] at h ⊢; exact h
theorem own_evJ {args : Array Value} {s : State} {t : Term} {z : Int64} (h : (Jvm.Cond.eq t (.long z)).value args s none s [] = some true) : t.eval args s none [] s = some (.long z) := by
  cases hv : t.eval args s none [] s with
  | none => simp [Cond.value, hv] at h
  | some x => cases x <;> simp [Cond.value, Term.eval, hv] at h ⊢; exact h
theorem own_fldV {args : Array Value} {s : State} {t : Term} {a : Addr} {C n d : String} {v : Value} (ev : t.eval args s none [] s = some (.ref a)) (h : (Term.field t C n d).eval args s none [] s = some v) : Fld s s.heap a C n d v := by
  refine Fld.start ?_
  rw [← fld_at (args := args) (first := s) (o := none) (idx := []) ev]; exact h
theorem own_lt (a b : Int32) : a < b ↔ a.toInt < b.toInt := Int32.lt_iff_toInt_lt
theorem own_le (a b : Int32) : a ≤ b ↔ a.toInt ≤ b.toInt := Int32.le_iff_toInt_le
theorem own_eqi (a b : Int32) : a = b ↔ a.toInt = b.toInt := Int32.toInt_inj.symm
theorem own_ltL (a b : Int64) : a < b ↔ a.toInt < b.toInt := Int64.lt_iff_toInt_lt
theorem own_eqL (a b : Int64) : a = b ↔ a.toInt = b.toInt := Int64.toInt_inj.symm
theorem own_evR {args : Array Value} {s : State} {t u : Term} {a : Addr} (h : (Jvm.Cond.eq t u).value args s none s [] = some true) (hu : u.eval args s none [] s = some (.ref a)) : t.eval args s none [] s = some (.ref a) := by
  cases hv : t.eval args s none [] s with
  | none => simp [Cond.value, hv] at h
  | some x => cases x <;> simp [Cond.value, hu, hv] at h ⊢; exact h
theorem own_len {args : Array Value} {s : State} {t : Term} {a : Addr} {cl : Cell} {z : Int32} (ev : t.eval args s none [] s = some (.ref a)) (hc : s.arrayAt? a = some cl) (h : (Term.length t).eval args s none [] s = some (.int z)) : cl.slots.size < 2 ^ 31 ∧ cl.slots.size.toInt32 = z := by
  by_cases q : cl.slots.size < 2147483648
  · simp [Term.eval, ev, hc, q] at h; exact ⟨q, h⟩
  · simp [Term.eval, ev, hc, q] at h
theorem own_pos (x : Int32) : 0 ≤ (x &&& (2147483647 : Int32)).toInt ∧ (x &&& (2147483647 : Int32)).toInt < 2147483648 := by
  have h := c_mask x 2147483647 31 (by decide) (by decide)
  rw [h]; omega
theorem own_mod3 (x : Int32) : (x &&& (2147483647 : Int32)) % (3 : Int32) = (0 : Int32) ∨ (x &&& (2147483647 : Int32)) % (3 : Int32) = (1 : Int32) ∨ (x &&& (2147483647 : Int32)) % (3 : Int32) = (2 : Int32) := by
  have h := own_pos x
  have q := (c_irem (x &&& (2147483647 : Int32)) (3 : Int32) 3 rfl).1 h.1
  simp only [own_eqi]
  rw [q]
  rw [show (0 : Int32).toInt = 0 from rfl, show (1 : Int32).toInt = 1 from rfl, show (2 : Int32).toInt = 2 from rfl]
  omega

theorem pn_0 : plainName "com/example/leanweave/leanweave/Objective" = true := by first | (simp [plainName, overriddenIn]; done) | decide +kernel
theorem d1_0 : decode prog_17_method_1_code 0 = .ok (.getstatic 13, 3) := by decide +kernel
theorem d1_3 : decode prog_17_method_1_code 3 = .ok (.invokevirtual 17, 3) := by decide +kernel
theorem d1_6 : decode prog_17_method_1_code 6 = .ok (.checkcast 18, 3) := by decide +kernel
theorem d1_9 : decode prog_17_method_1_code 9 = .ok (.areturn, 1) := by decide +kernel
theorem ef_1 (m : MethodId)  : entryFrame m #[] 0 = mkF m 0 #[] [] := by first | (simp [entryFrame, mkF, argsToLocals, Value.category]; done) | rfl
def Q1 (Z : State) (u_Objective__VALUES : Addr) (u_Objective_SERVICES : Addr) (u_Objective_RESPONSE_TIME : Addr) (u_Objective_THROUGHPUT : Addr) (kk : ClassId) (h0 : Heap) (n0 : Nat) (v : Option Value) (h : Heap) (L : List Loc) : Prop := ∃ b1 : Addr, v = some (.ref b1) ∧ Fr n0 L ∧ Keep h0 h [] ∧ n0 ≤ b1 ∧ h0.size ≤ b1 ∧ Arv Z h b1 kk (.object "com/example/leanweave/leanweave/Objective") (3 : Int32) [(.ref u_Objective_SERVICES), (.ref u_Objective_RESPONSE_TIME), (.ref u_Objective_THROUGHPUT)] .null ∧ Exa Z h b1 "[Lcom/example/leanweave/leanweave/Objective;"
set_option maxRecDepth 65536 in
set_option maxHeartbeats 40000000 in
theorem rm1 (l : Launch) (Z : State) (a0 : Array Value) (hw : ∀ d ∈ tables_1, d.before a0 Z = true) (ws : List Jvm.Cond) (u_Objective__VALUES : Addr) (u_Objective_SERVICES : Addr) (u_Objective_RESPONSE_TIME : Addr) (u_Objective_THROUGHPUT : Addr) (kk : ClassId) (h0 : Heap) (n0 : Nat) (Z0 : n0 ≤ h0.size) (Sv : Sta Z h0 "com/example/leanweave/leanweave/Objective" "$VALUES" "[Lcom/example/leanweave/leanweave/Objective;" (.ref u_Objective__VALUES)) (Vv : Arv Z h0 u_Objective__VALUES kk (.object "com/example/leanweave/leanweave/Objective") (3 : Int32) [(.ref u_Objective_SERVICES), (.ref u_Objective_RESPONSE_TIME), (.ref u_Objective_THROUGHPUT)] .null) (Ev : Exa Z h0 u_Objective__VALUES "[Lcom/example/leanweave/leanweave/Objective;") :
    MetFree l (⟨"com/example/leanweave/leanweave/Objective", "values", "()[Lcom/example/leanweave/leanweave/Objective;"⟩ : MethodName) (head1 (Jvm.Cond.code (⟨"com/example/leanweave/leanweave/Objective", "values", "()[Lcom/example/leanweave/leanweave/Objective;"⟩ : MethodName) prog_17_method_1_code 0 (some (.array (.object "com/example/leanweave/leanweave/Objective"))) :: ws) ({ frames := 1, cells := 1, slots := 3, locals := 14 } : Room)) (fun a U => a = #[] ∧ Z.Warmed39 U.vm ∧ U.heap = h0) (fun _ _ _ _ _ => True) (fun _ U o U' => ∃ v L, o = .returned v ∧ Q1 Z u_Objective__VALUES u_Objective_SERVICES u_Objective_RESPONSE_TIME u_Objective_THROUGHPUT kk h0 n0 v U'.heap L ∧ FrameEnd U o U' L ({ frames := 1, cells := 1, slots := 3, locals := 14 } : Room).cells ({ frames := 1, cells := 1, slots := 3, locals := 14 } : Room).slots) := by
  refine MetFree.of_bodySF (plainFor_of_name pn_0) hisR ?_
  intro p e s m args below meth c s₁ Bd hml0 hP hK
  obtain ⟨rfl, hZ, hh⟩ := hP
  have hx := Bd.exec
  have hby := Bd.bytes
  have hml : c.maxLocals = 0 := hml0
  have hown : s.vm.findClass "com/example/leanweave/leanweave/Objective" = some m.cls := findClass_of_methodNamed Bd.named
  have hnm := (name_of_methodNamed Bd.named Bd.method).1
  have X0 : Stand p l e ({ frames := 1, cells := 1, slots := 3, locals := 14 } : Room) s m #[] below meth c s₁ [] 0 0 := Stand.of_body Bd
  have e0 : s₁.heap = h0 := by rw [← hh, Bd.state]; rfl
  have N0 := Fr.nil n0
  have pre0 : ∀ t, Steps p.tables e below (s₁.setTop (mkF m 0 #[] [])) t → Steps p.tables e below (s₁.setTop (entryFrame m #[] 0)) t := fun t k => castTop (ef_1 m ) k
  obtain ⟨T1, X1, e1, st1⟩ := getS2 X0 hx hZ hown (host := "") (Or.inl (hw _ (List.mem_of_getElem? (i := 13) rfl))) Via.refl e0 Sv (g := (mkF m 0 #[] [])) rfl (hb hby d1_0)
  obtain ⟨b2, g2⟩ : ∃ z, z = h0.size := ⟨_, rfl⟩
  obtain ⟨T2, h2, X2, e2, E2, V2, A2, st2⟩ := cloneH X1 hx hZ hown (hw _ (List.mem_of_getElem? (i := 15) rfl)) (hw _ (List.mem_of_getElem? (i := 16) rfl)) (hw _ (List.mem_of_getElem? (i := 20) rfl)) (hw _ (List.mem_of_getElem? (i := 18) rfl)) (hw _ (List.mem_of_getElem? (i := 19) rfl)) (hw _ (List.mem_of_getElem? (i := 21) rfl)) e1 (Arv.arh Vv) Ev (g := (mkF m 3 #[] [(.ref u_Objective__VALUES)])) rfl (by rw [hml]; rfl) rfl (hb hby d1_3) (by decide) (W := 0) (cap := 3) (by show 2 * 0 + _ ≤ _; exact Nat.le_of_eq rfl) (by decide) (by decide) (by decide) (by decide)
  rw [← g2] at V2 A2 st2
  have ne3 : u_Objective__VALUES ≠ b2 := Nat.ne_of_lt (Nat.lt_of_lt_of_le Vv.lt (Nat.le_of_eq g2.symm))
  have gg2 : n0 ≤ b2 := Nat.le_trans Z0 (Nat.le_of_eq g2.symm)
  have sz2 : h0.size ≤ b2 := Nat.le_trans (Keep.refl h0 []).1 (Nat.le_of_eq g2.symm)
  have Zs2 : n0 ≤ h2.size := Nat.le_trans Z0 E2.1
  have K2 : Keep h0 h2 [] := (Keep.refl h0 []).ext E2
  have F4 : Sta Z h2 "com/example/leanweave/leanweave/Objective" "$VALUES" "[Lcom/example/leanweave/leanweave/Objective;" (.ref u_Objective__VALUES) := Sv.ext E2
  have F5 : Arv Z h2 u_Objective__VALUES kk (.object "com/example/leanweave/leanweave/Objective") (3 : Int32) [(.ref u_Objective_SERVICES), (.ref u_Objective_RESPONSE_TIME), (.ref u_Objective_THROUGHPUT)] .null := Vv.ext E2
  have F6 : Exa Z h2 u_Objective__VALUES "[Lcom/example/leanweave/leanweave/Objective;" := Ev.ext E2
  have Va2 : Arv Z h2 b2 kk (.object "com/example/leanweave/leanweave/Objective") (3 : Int32) [(.ref u_Objective_SERVICES), (.ref u_Objective_RESPONSE_TIME), (.ref u_Objective_THROUGHPUT)] .null := V2
  obtain ⟨T7, X7, e7, st7⟩ := castY X2 hx hZ hown (hw _ (List.mem_of_getElem? (i := 25) rfl)) e2 (Ins.self A2) (g := (mkF m 6 #[] [(.ref b2)])) rfl rfl (hb hby d1_6)
  have k8 : ∀ t, Steps p.tables e below (T7.setTop (mkF m 9 #[] [(.ref b2)])) t → Steps p.tables e below (s₁.setTop (entryFrame m #[] 0)) t := by
    intro t k
    refine pre0 t ?_
    show Steps p.tables e below (s₁.setTop (mkF m 0 #[] [])) _
    refine st1 _ ?_
    show Steps p.tables e below (T1.setTop (mkF m 3 #[] [(.ref u_Objective__VALUES)])) _
    refine st2 _ ?_
    show Steps p.tables e below (T2.setTop (mkF m 6 #[] [(.ref b2)])) _
    refine st7 _ ?_
    exact k
  obtain ⟨fs, hr, hrun, hended, hW, hsame⟩ := X7.leave (v := some (.ref b2)) (fun h => by rw [Bd.returns] at h; cases h)
  refine ⟨_, _, k8 _ ?_, hrun, hended, _, _, rfl, ?_, ⟨_, rfl⟩, hW, hsame.mono (by decide) (by decide)⟩
  · exact retOut X7 hx Bd.returns rfl (Or.inr (Or.inr (Or.inr (Or.inr ⟨rfl, rfl, rfl⟩)))) (hb hby d1_9) hr
  · show Q1 Z u_Objective__VALUES u_Objective_SERVICES u_Objective_RESPONSE_TIME u_Objective_THROUGHPUT kk h0 n0 _ T7.heap _
    rw [e7]
    exact ⟨b2, rfl, N0, K2, gg2, sz2, Va2, A2⟩
theorem pn_1 : plainName "java/util/Objects" = true := by first | (simp [plainName, overriddenIn]; done) | decide +kernel
theorem d2_0 : decode jdk_31_method_10_code 0 = .ok (.aload_n 0, 1) := by decide +kernel
theorem d2_1 : decode jdk_31_method_10_code 1 = .ok (.ifnonnull 11, 3) := by decide +kernel
theorem d2_12 : decode jdk_31_method_10_code 12 = .ok (.aload_n 0, 1) := by decide +kernel
theorem d2_13 : decode jdk_31_method_10_code 13 = .ok (.areturn, 1) := by decide +kernel
theorem ef_2 (m : MethodId) (a2_0 : Addr) : entryFrame m #[(.ref a2_0)] 1 = mkF m 0 #[.val (.ref a2_0)] [] := by first | (simp [entryFrame, mkF, argsToLocals, Value.category]; done) | rfl
def Q2 (Z : State) (a2_0 : Addr) (h0 : Heap) (n0 : Nat) (v : Option Value) (h : Heap) (L : List Loc) : Prop := v = some (.ref a2_0) ∧ Fr n0 L ∧ h = h0
set_option maxRecDepth 65536 in
set_option maxHeartbeats 40000000 in
theorem rm2 (l : Launch) (Z : State) (a0 : Array Value) (hw : ∀ d ∈ tables_1, d.before a0 Z = true) (ws : List Jvm.Cond) (a2_0 : Addr) (h0 : Heap) (n0 : Nat) (Z0 : n0 ≤ h0.size) :
    MetFree l (⟨"java/util/Objects", "requireNonNull", "(Ljava/lang/Object;)Ljava/lang/Object;"⟩ : MethodName) (head1 (Jvm.Cond.code (⟨"java/util/Objects", "requireNonNull", "(Ljava/lang/Object;)Ljava/lang/Object;"⟩ : MethodName) jdk_31_method_10_code 1 (some (.object "java/lang/Object")) :: ws) ({ frames := 0, cells := 0, slots := 0, locals := 0 } : Room)) (fun a U => a = #[(.ref a2_0)] ∧ Z.Warmed39 U.vm ∧ U.heap = h0) (fun _ _ _ _ _ => True) (fun _ U o U' => ∃ v L, o = .returned v ∧ Q2 Z a2_0 h0 n0 v U'.heap L ∧ FrameEnd U o U' L ({ frames := 0, cells := 0, slots := 0, locals := 0 } : Room).cells ({ frames := 0, cells := 0, slots := 0, locals := 0 } : Room).slots) := by
  refine MetFree.of_bodySF (plainFor_of_name pn_1) hisR ?_
  intro p e s m args below meth c s₁ Bd hml0 hP hK
  obtain ⟨rfl, hZ, hh⟩ := hP
  have hx := Bd.exec
  have hby := Bd.bytes
  have hml : c.maxLocals = 1 := hml0
  have hown : s.vm.findClass "java/util/Objects" = some m.cls := findClass_of_methodNamed Bd.named
  have hnm := (name_of_methodNamed Bd.named Bd.method).1
  have X0 : Stand p l e ({ frames := 0, cells := 0, slots := 0, locals := 0 } : Room) s m #[(.ref a2_0)] below meth c s₁ [] 0 0 := Stand.of_body Bd
  have e0 : s₁.heap = h0 := by rw [← hh, Bd.state]; rfl
  have N0 := Fr.nil n0
  have pre0 : ∀ t, Steps p.tables e below (s₁.setTop (mkF m 0 #[.val (.ref a2_0)] [])) t → Steps p.tables e below (s₁.setTop (entryFrame m #[(.ref a2_0)] 1)) t := fun t k => castTop (ef_2 m a2_0) k
  have k1 : ∀ t, Steps p.tables e below (s₁.setTop (mkF m 13 #[.val (.ref a2_0)] [(.ref a2_0)])) t → Steps p.tables e below (s₁.setTop (entryFrame m #[(.ref a2_0)] 1)) t := by
    intro t k
    refine pre0 t ?_
    show Steps p.tables e below (s₁.setTop (mkF m 0 #[.val (.ref a2_0)] [])) _
    refine XS.aloadN X0.here hx rfl (hb hby d2_0) rfl rfl ?_
    show Steps p.tables e below (s₁.setTop (mkF m 1 #[.val (.ref a2_0)] [(.ref a2_0)])) _
    refine XS.ifnonnullYes X0.here hx rfl (pc0 := 1) (pc' := 12) rfl (hb hby d2_1) rfl (by decide) (by decide) ?_
    show Steps p.tables e below (s₁.setTop (mkF m 12 #[.val (.ref a2_0)] [])) _
    refine XS.aloadN X0.here hx rfl (hb hby d2_12) rfl rfl ?_
    exact k
  obtain ⟨fs, hr, hrun, hended, hW, hsame⟩ := X0.leave (v := some (.ref a2_0)) (fun h => by rw [Bd.returns] at h; cases h)
  refine ⟨_, _, k1 _ ?_, hrun, hended, _, _, rfl, ?_, ⟨_, rfl⟩, hW, hsame.mono (by decide) (by decide)⟩
  · exact retOut X0 hx Bd.returns rfl (Or.inr (Or.inr (Or.inr (Or.inr ⟨rfl, rfl, rfl⟩)))) (hb hby d2_13) hr
  · show Q2 Z a2_0 h0 n0 _ s₁.heap _
    rw [e0]
    exact ⟨rfl, N0, rfl⟩
theorem pn_2 : plainName "java/util/Optional" = true := by first | (simp [plainName, overriddenIn]; done) | decide +kernel
theorem d3_0 : decode jdk_32_method_2_code 0 = .ok (.aload_n 0, 1) := by decide +kernel
theorem d3_1 : decode jdk_32_method_2_code 1 = .ok (.invokespecial 7, 3) := by decide +kernel
theorem d3_4 : decode jdk_32_method_2_code 4 = .ok (.aload_n 0, 1) := by decide +kernel
theorem d3_5 : decode jdk_32_method_2_code 5 = .ok (.aload_n 1, 1) := by decide +kernel
theorem d3_6 : decode jdk_32_method_2_code 6 = .ok (.putfield 13, 3) := by decide +kernel
theorem d3_9 : decode jdk_32_method_2_code 9 = .ok (.return_, 1) := by decide +kernel
theorem ef_3 (m : MethodId) (a3_0 : Addr) (a3_1 : Addr) : entryFrame m #[(.ref a3_0), (.ref a3_1)] 2 = mkF m 0 #[.val (.ref a3_0), .val (.ref a3_1)] [] := by first | (simp [entryFrame, mkF, argsToLocals, Value.category]; done) | rfl
def Q3 (Z : State) (a3_0 : Addr) (a3_1 : Addr) (h0 : Heap) (n0 : Nat) (v : Option Value) (h : Heap) (L : List Loc) : Prop := v = none ∧ Fr n0 L ∧ Keep h0 h [a3_0] ∧ Exa Z h a3_0 "java/util/Optional" ∧ Fld Z h a3_0 "java/util/Optional" "value" "Ljava/lang/Object;" (.ref a3_1)
set_option maxRecDepth 65536 in
set_option maxHeartbeats 40000000 in
theorem rm3 (l : Launch) (Z : State) (a0 : Array Value) (hw : ∀ d ∈ tables_1, d.before a0 Z = true) (ws : List Jvm.Cond) (a3_0 : Addr) (a3_1 : Addr) (h0 : Heap) (n0 : Nat) (Z0 : n0 ≤ h0.size) (Ea : Exa Z h0 a3_0 "java/util/Optional") (Fv : Fld Z h0 a3_0 "java/util/Optional" "value" "Ljava/lang/Object;" .null) (g_a3_0 : n0 ≤ a3_0) :
    MetFree l (⟨"java/util/Optional", "<init>", "(Ljava/lang/Object;)V"⟩ : MethodName) (head1 (Jvm.Cond.code (⟨"java/util/Optional", "<init>", "(Ljava/lang/Object;)V"⟩ : MethodName) jdk_32_method_2_code 2 none :: ws) ({ frames := 1, cells := 0, slots := 0, locals := 12 } : Room)) (fun a U => a = #[(.ref a3_0), (.ref a3_1)] ∧ Z.Warmed39 U.vm ∧ U.heap = h0) (fun _ _ _ _ _ => True) (fun _ U o U' => ∃ v L, o = .returned v ∧ Q3 Z a3_0 a3_1 h0 n0 v U'.heap L ∧ FrameEnd U o U' L ({ frames := 1, cells := 0, slots := 0, locals := 12 } : Room).cells ({ frames := 1, cells := 0, slots := 0, locals := 12 } : Room).slots) := by
  refine MetFree.of_bodySF (plainFor_of_name pn_2) hisR ?_
  intro p e s m args below meth c s₁ Bd hml0 hP hK
  obtain ⟨rfl, hZ, hh⟩ := hP
  have hx := Bd.exec
  have hby := Bd.bytes
  have hml : c.maxLocals = 2 := hml0
  have hown : s.vm.findClass "java/util/Optional" = some m.cls := findClass_of_methodNamed Bd.named
  have hnm := (name_of_methodNamed Bd.named Bd.method).1
  have X0 : Stand p l e ({ frames := 1, cells := 0, slots := 0, locals := 12 } : Room) s m #[(.ref a3_0), (.ref a3_1)] below meth c s₁ [] 0 0 := Stand.of_body Bd
  have e0 : s₁.heap = h0 := by rw [← hh, Bd.state]; rfl
  have N0 := Fr.nil n0
  have pre0 : ∀ t, Steps p.tables e below (s₁.setTop (mkF m 0 #[.val (.ref a3_0), .val (.ref a3_1)] [])) t → Steps p.tables e below (s₁.setTop (entryFrame m #[(.ref a3_0), (.ref a3_1)] 2)) t := fun t k => castTop (ef_3 m a3_0 a3_1) k
  obtain ⟨T1, X1, e1, st1⟩ := initO X0 hx hZ hown (hw _ (List.mem_of_getElem? (i := 43) rfl)) (hw _ (List.mem_of_getElem? (i := 44) rfl)) (hw _ (List.mem_of_getElem? (i := 45) rfl)) e0 (g := (mkF m 1 #[.val (.ref a3_0), .val (.ref a3_1)] [(.ref a3_0)])) rfl (by rw [hml]; rfl) rfl (hb hby d3_1) (by decide) (W := 0) (by show 2 * 0 + _ ≤ _; exact Nat.le_of_eq rfl) (by decide)
  obtain ⟨T2, h2, X2, e2, W2, st2⟩ := putF X1 hx hZ hown (host := "") (Or.inl (hw _ (List.mem_of_getElem? (i := 46) rfl))) Via.refl e1 Fv Ea (Or.inr ⟨(hw _ (List.mem_of_getElem? (i := 47) rfl)), rfl, hnm⟩) (hw _ (List.mem_of_getElem? (i := 34) rfl)) (ty := (.object "java/lang/Object")) (by decide) rfl rfl (g := (mkF m 6 #[.val (.ref a3_0), .val (.ref a3_1)] [(.ref a3_1), (.ref a3_0)])) rfl rfl (hb hby d3_6)
  have Fw2 : Fld Z h2 a3_0 "java/util/Optional" "value" "Ljava/lang/Object;" (.ref a3_1) := Fv.same W2
  have F3 : Exa Z h2 a3_0 "java/util/Optional" := Ea.wr W2
  have N2 := Fr.snoc X2 N0 g_a3_0
  have K2 : Keep h0 h2 [a3_0] := (Keep.refl h0 [a3_0]).wr W2 (Or.inl (List.mem_of_getElem? (i := 0) rfl))
  have Zs2 : n0 ≤ h2.size := by rw [W2.size]; exact Z0
  have k5 : ∀ t, Steps p.tables e below (T2.setTop (mkF m 9 #[.val (.ref a3_0), .val (.ref a3_1)] [])) t → Steps p.tables e below (s₁.setTop (entryFrame m #[(.ref a3_0), (.ref a3_1)] 2)) t := by
    intro t k
    refine pre0 t ?_
    show Steps p.tables e below (s₁.setTop (mkF m 0 #[.val (.ref a3_0), .val (.ref a3_1)] [])) _
    refine XS.aloadN X0.here hx rfl (hb hby d3_0) rfl rfl ?_
    show Steps p.tables e below (s₁.setTop (mkF m 1 #[.val (.ref a3_0), .val (.ref a3_1)] [(.ref a3_0)])) _
    refine st1 _ ?_
    show Steps p.tables e below (T1.setTop (mkF m 4 #[.val (.ref a3_0), .val (.ref a3_1)] [])) _
    refine XS.aloadN X1.here hx rfl (hb hby d3_4) rfl rfl ?_
    show Steps p.tables e below (T1.setTop (mkF m 5 #[.val (.ref a3_0), .val (.ref a3_1)] [(.ref a3_0)])) _
    refine XS.aloadN X1.here hx rfl (hb hby d3_5) rfl rfl ?_
    show Steps p.tables e below (T1.setTop (mkF m 6 #[.val (.ref a3_0), .val (.ref a3_1)] [(.ref a3_1), (.ref a3_0)])) _
    refine st2 _ ?_
    exact k
  obtain ⟨fs, hr, hrun, hended, hW, hsame⟩ := X2.leave (v := none) (fun _ => rfl)
  refine ⟨_, _, k5 _ ?_, hrun, hended, _, _, rfl, ?_, ⟨_, rfl⟩, hW, hsame.mono (by decide) (by decide)⟩
  · exact X2.returnOut hx Bd.returns (hb hby d3_9) hr
  · show Q3 Z a3_0 a3_1 h0 n0 _ T2.heap _
    rw [e2]
    exact ⟨rfl, N2, K2, F3, Fw2⟩
theorem pd_0 : parseMethodDescriptor "(Ljava/lang/Object;)Ljava/lang/Object;" = some ⟨[(.object "java/lang/Object")], some (.object "java/lang/Object")⟩ := by decide +kernel
theorem pd_1 : parseMethodDescriptor "(Ljava/lang/Object;)V" = some ⟨[(.object "java/lang/Object")], none⟩ := by decide +kernel
theorem d4_0 : decode jdk_32_method_3_code 0 = .ok (.new 2, 3) := by decide +kernel
theorem d4_3 : decode jdk_32_method_3_code 3 = .ok (.dup, 1) := by decide +kernel
theorem d4_4 : decode jdk_32_method_3_code 4 = .ok (.aload_n 0, 1) := by decide +kernel
theorem d4_5 : decode jdk_32_method_3_code 5 = .ok (.invokestatic 17, 3) := by decide +kernel
theorem d4_8 : decode jdk_32_method_3_code 8 = .ok (.invokespecial 23, 3) := by decide +kernel
theorem d4_11 : decode jdk_32_method_3_code 11 = .ok (.areturn, 1) := by decide +kernel
theorem ef_4 (m : MethodId) (a4_0 : Addr) : entryFrame m #[(.ref a4_0)] 1 = mkF m 0 #[.val (.ref a4_0)] [] := by first | (simp [entryFrame, mkF, argsToLocals, Value.category]; done) | rfl
def Q4 (Z : State) (a4_0 : Addr) (h0 : Heap) (n0 : Nat) (v : Option Value) (h : Heap) (L : List Loc) : Prop := ∃ b4 : Addr, v = some (.ref b4) ∧ Fr n0 L ∧ Keep h0 h [] ∧ n0 ≤ b4 ∧ h0.size ≤ b4 ∧ Exa Z h b4 "java/util/Optional" ∧ Fld Z h b4 "java/util/Optional" "value" "Ljava/lang/Object;" (.ref a4_0)
set_option maxRecDepth 65536 in
set_option maxHeartbeats 40000000 in
theorem rm4 (l : Launch) (Z : State) (a0 : Array Value) (hw : ∀ d ∈ tables_1, d.before a0 Z = true) (ws : List Jvm.Cond) (a4_0 : Addr) (h0 : Heap) (n0 : Nat) (Z0 : n0 ≤ h0.size) :
    MetFree l (⟨"java/util/Optional", "of", "(Ljava/lang/Object;)Ljava/util/Optional;"⟩ : MethodName) (head1 (Jvm.Cond.code (⟨"java/util/Optional", "of", "(Ljava/lang/Object;)Ljava/util/Optional;"⟩ : MethodName) jdk_32_method_3_code 1 (some (.object "java/util/Optional")) :: ws) ({ frames := 2, cells := 1, slots := 1, locals := 26 } : Room)) (fun a U => a = #[(.ref a4_0)] ∧ Z.Warmed39 U.vm ∧ U.heap = h0) (fun _ _ _ _ _ => True) (fun _ U o U' => ∃ v L, o = .returned v ∧ Q4 Z a4_0 h0 n0 v U'.heap L ∧ FrameEnd U o U' L ({ frames := 2, cells := 1, slots := 1, locals := 26 } : Room).cells ({ frames := 2, cells := 1, slots := 1, locals := 26 } : Room).slots) := by
  refine MetFree.of_bodySF (plainFor_of_name pn_2) hisR ?_
  intro p e s m args below meth c s₁ Bd hml0 hP hK
  obtain ⟨rfl, hZ, hh⟩ := hP
  have hx := Bd.exec
  have hby := Bd.bytes
  have hml : c.maxLocals = 1 := hml0
  have hown : s.vm.findClass "java/util/Optional" = some m.cls := findClass_of_methodNamed Bd.named
  have hnm := (name_of_methodNamed Bd.named Bd.method).1
  have X0 : Stand p l e ({ frames := 2, cells := 1, slots := 1, locals := 26 } : Room) s m #[(.ref a4_0)] below meth c s₁ [] 0 0 := Stand.of_body Bd
  have e0 : s₁.heap = h0 := by rw [← hh, Bd.state]; rfl
  have N0 := Fr.nil n0
  have pre0 : ∀ t, Steps p.tables e below (s₁.setTop (mkF m 0 #[.val (.ref a4_0)] [])) t → Steps p.tables e below (s₁.setTop (entryFrame m #[(.ref a4_0)] 1)) t := fun t k => castTop (ef_4 m a4_0) k
  obtain ⟨b1, g1⟩ : ∃ z, z = h0.size := ⟨_, rfl⟩
  obtain ⟨T1, h1, X1, e1, E1, A1, D1, -, st1⟩ := newO X0 hx hZ hown (hw _ (List.mem_of_getElem? (i := 33) rfl)) (hw _ (List.mem_of_getElem? (i := 34) rfl)) (hw _ (List.mem_of_getElem? (i := 31) rfl)) e0 (g := (mkF m 0 #[.val (.ref a4_0)] [])) rfl (hb hby d4_0) (by decide) (by decide)
  rw [← g1] at A1 D1 st1
  have gg1 : n0 ≤ b1 := Nat.le_trans Z0 (Nat.le_of_eq g1.symm)
  have sz1 : h0.size ≤ b1 := Nat.le_trans (Keep.refl h0 []).1 (Nat.le_of_eq g1.symm)
  have Zs1 : n0 ≤ h1.size := Nat.le_trans Z0 E1.1
  have K1 : Keep h0 h1 [] := (Keep.refl h0 []).ext E1
  have F2 : Fld Z h1 b1 "java/util/Optional" "value" "Ljava/lang/Object;" .null := D1 (Or.inr (hw _ (List.mem_of_getElem? (i := 47) rfl))) (ty := (.object "java/lang/Object")) (by decide)
  obtain ⟨_, _, ⟨T3, L3, k3, n3⟩, -, X3, ⟨Lc3, hQ3, l3, y3, z3⟩, st3⟩ := Jvm.LawKit.callS X1 hx (y := (⟨"java/util/Objects", "requireNonNull", "(Ljava/lang/Object;)Ljava/lang/Object;"⟩ : MethodName)) hown (mvT hZ (hw _ (List.mem_of_getElem? (i := 35) rfl))) (mvT hZ (hw _ (List.mem_of_getElem? (i := 36) rfl))) (mvT hZ (hw _ (List.mem_of_getElem? (i := 37) rfl))) (mvT hZ (hw _ (List.mem_of_getElem? (i := 38) rfl))) (by decide) (backOf (W := 2) (rm2 l Z a0 hw [] a4_0 h1 n0 Zs1 ) hZ (hw _ (List.mem_of_getElem? (i := 38) rfl)) (hw _ (List.mem_of_getElem? (i := 37) rfl)) (by decide) (by decide)) (g := (mkF m 5 #[.val (.ref a4_0)] [(.ref a4_0), (.ref b1), (.ref b1)])) rfl (by rw [hml]; rfl) (argsL := [(.ref a4_0)]) (rest := [(.ref b1), (.ref b1)]) (lenOf pd_0 rfl) rfl (by show 2 * 0 + _ ≤ _; exact Nat.le_of_eq rfl) (hb hby d4_5) (fun _ _ => ⟨rfl, e1, (by decide : 1 + 0 ≤ _), (by decide : 1 + 0 ≤ _)⟩)
  dsimp only [Pt.U, Pt.locs, Pt.cells, Pt.slots] at X3 l3 y3 z3 st3 hQ3
  subst l3 y3 z3
  obtain ⟨rfl, N3q, eh3⟩ := hQ3
  have N3 := Fr.app N0 N3q
  obtain ⟨_, _, ⟨T4, L4, k4, n4⟩, -, X4, ⟨Lc4, hQ4, l4, y4, z4⟩, st4⟩ := X3.specialBack hx (y := (⟨"java/util/Optional", "<init>", "(Ljava/lang/Object;)V"⟩ : MethodName)) rfl hown (mvT hZ (hw _ (List.mem_of_getElem? (i := 39) rfl))) (mvT hZ (hw _ (List.mem_of_getElem? (i := 40) rfl))) (mvT hZ (hw _ (List.mem_of_getElem? (i := 42) rfl))) (by decide) (backOf (W := 1) (rm3 l Z a0 hw [] b1 a4_0 h1 n0 Zs1 A1 F2 gg1) hZ (hw _ (List.mem_of_getElem? (i := 42) rfl)) (hw _ (List.mem_of_getElem? (i := 31) rfl)) (by decide) (by decide)) (g := (mkF m 8 #[.val (.ref a4_0)] [(.ref a4_0), (.ref b1), (.ref b1)])) rfl (by rw [hml]; rfl) (Steps.refl _) (a := b1) (argsL := [(.ref a4_0)]) (rest := [(.ref b1)]) (lenOf pd_1 rfl) rfl (by show 2 * 0 + _ ≤ _; exact Nat.le_of_eq rfl) (hb hby d4_8) (fun _ _ => ⟨rfl, eh3, (by decide : 1 + 0 ≤ _), (by decide : 1 + 0 ≤ _)⟩)
  dsimp only [Pt.U, Pt.locs, Pt.cells, Pt.slots] at X4 l4 y4 z4 st4 hQ4
  subst l4 y4 z4
  obtain ⟨rfl, N4q, Kc4, G4_0, G4_1⟩ := hQ4
  have Zs4 : n0 ≤ T4.heap.size := Nat.le_trans Zs1 Kc4.1
  have K4 : Keep h0 T4.heap [] := K1.trans Kc4 (allS (Or.inr sz1) all0)
  have N4 := Fr.app N3 N4q
  have k5 : ∀ t, Steps p.tables e below (T4.setTop (mkF m 11 #[.val (.ref a4_0)] [(.ref b1)])) t → Steps p.tables e below (s₁.setTop (entryFrame m #[(.ref a4_0)] 1)) t := by
    intro t k
    refine pre0 t ?_
    show Steps p.tables e below (s₁.setTop (mkF m 0 #[.val (.ref a4_0)] [])) _
    refine st1 _ ?_
    show Steps p.tables e below (T1.setTop (mkF m 3 #[.val (.ref a4_0)] [(.ref b1)])) _
    refine XS.dup X1.here hx rfl (hb hby d4_3) rfl rfl ?_
    show Steps p.tables e below (T1.setTop (mkF m 4 #[.val (.ref a4_0)] [(.ref b1), (.ref b1)])) _
    refine XS.aloadN X1.here hx rfl (hb hby d4_4) rfl rfl ?_
    show Steps p.tables e below (T1.setTop (mkF m 5 #[.val (.ref a4_0)] [(.ref a4_0), (.ref b1), (.ref b1)])) _
    refine st3 _ ?_
    show Steps p.tables e below (T3.setTop (mkF m 8 #[.val (.ref a4_0)] [(.ref a4_0), (.ref b1), (.ref b1)])) _
    refine st4.trans ?_
    exact k
  obtain ⟨fs, hr, hrun, hended, hW, hsame⟩ := X4.leave (v := some (.ref b1)) (fun h => by rw [Bd.returns] at h; cases h)
  refine ⟨_, _, k5 _ ?_, hrun, hended, _, _, rfl, ?_, ⟨_, rfl⟩, hW, hsame.mono (by decide) (by decide)⟩
  · exact retOut X4 hx Bd.returns rfl (Or.inr (Or.inr (Or.inr (Or.inr ⟨rfl, rfl, rfl⟩)))) (hb hby d4_11) hr
  · show Q4 Z a4_0 h0 n0 _ T4.heap _
    exact ⟨b1, rfl, N4, K4, gg1, sz1, G4_0, G4_1⟩
theorem d5_0 : decode jdk_32_method_1_code 0 = .ok (.getstatic 1, 3) := by decide +kernel
theorem d5_3 : decode jdk_32_method_1_code 3 = .ok (.astore_n 0, 1) := by decide +kernel
theorem d5_4 : decode jdk_32_method_1_code 4 = .ok (.aload_n 0, 1) := by decide +kernel
theorem d5_5 : decode jdk_32_method_1_code 5 = .ok (.areturn, 1) := by decide +kernel
theorem ef_5 (m : MethodId)  : entryFrame m #[] 1 = mkF m 0 #[.unset] [] := by first | (simp [entryFrame, mkF, argsToLocals, Value.category]; done) | rfl
def Q5 (Z : State) (u_Optional_EMPTY : Addr) (h0 : Heap) (n0 : Nat) (v : Option Value) (h : Heap) (L : List Loc) : Prop := v = some (.ref u_Optional_EMPTY) ∧ Fr n0 L ∧ h = h0
set_option maxRecDepth 65536 in
set_option maxHeartbeats 40000000 in
theorem rm5 (l : Launch) (Z : State) (a0 : Array Value) (hw : ∀ d ∈ tables_1, d.before a0 Z = true) (ws : List Jvm.Cond) (u_Optional_EMPTY : Addr) (h0 : Heap) (n0 : Nat) (Z0 : n0 ≤ h0.size) (Se : Sta Z h0 "java/util/Optional" "EMPTY" "Ljava/util/Optional;" (.ref u_Optional_EMPTY)) :
    MetFree l (⟨"java/util/Optional", "empty", "()Ljava/util/Optional;"⟩ : MethodName) (head1 (Jvm.Cond.code (⟨"java/util/Optional", "empty", "()Ljava/util/Optional;"⟩ : MethodName) jdk_32_method_1_code 1 (some (.object "java/util/Optional")) :: ws) ({ frames := 0, cells := 0, slots := 0, locals := 0 } : Room)) (fun a U => a = #[] ∧ Z.Warmed39 U.vm ∧ U.heap = h0) (fun _ _ _ _ _ => True) (fun _ U o U' => ∃ v L, o = .returned v ∧ Q5 Z u_Optional_EMPTY h0 n0 v U'.heap L ∧ FrameEnd U o U' L ({ frames := 0, cells := 0, slots := 0, locals := 0 } : Room).cells ({ frames := 0, cells := 0, slots := 0, locals := 0 } : Room).slots) := by
  refine MetFree.of_bodySF (plainFor_of_name pn_2) hisR ?_
  intro p e s m args below meth c s₁ Bd hml0 hP hK
  obtain ⟨rfl, hZ, hh⟩ := hP
  have hx := Bd.exec
  have hby := Bd.bytes
  have hml : c.maxLocals = 1 := hml0
  have hown : s.vm.findClass "java/util/Optional" = some m.cls := findClass_of_methodNamed Bd.named
  have hnm := (name_of_methodNamed Bd.named Bd.method).1
  have X0 : Stand p l e ({ frames := 0, cells := 0, slots := 0, locals := 0 } : Room) s m #[] below meth c s₁ [] 0 0 := Stand.of_body Bd
  have e0 : s₁.heap = h0 := by rw [← hh, Bd.state]; rfl
  have N0 := Fr.nil n0
  have pre0 : ∀ t, Steps p.tables e below (s₁.setTop (mkF m 0 #[.unset] [])) t → Steps p.tables e below (s₁.setTop (entryFrame m #[] 1)) t := fun t k => castTop (ef_5 m ) k
  obtain ⟨T1, X1, e1, st1⟩ := getS2 X0 hx hZ hown (host := "") (Or.inl (hw _ (List.mem_of_getElem? (i := 61) rfl))) Via.refl e0 Se (g := (mkF m 0 #[.unset] [])) rfl (hb hby d5_0)
  have k2 : ∀ t, Steps p.tables e below (T1.setTop (mkF m 5 #[.val (.ref u_Optional_EMPTY)] [(.ref u_Optional_EMPTY)])) t → Steps p.tables e below (s₁.setTop (entryFrame m #[] 1)) t := by
    intro t k
    refine pre0 t ?_
    show Steps p.tables e below (s₁.setTop (mkF m 0 #[.unset] [])) _
    refine st1 _ ?_
    show Steps p.tables e below (T1.setTop (mkF m 3 #[.unset] [(.ref u_Optional_EMPTY)])) _
    refine XS.astoreN X1.here hx rfl (hb hby d5_3) rfl rfl (l' := #[.val (.ref u_Optional_EMPTY)]) rfl ?_
    show Steps p.tables e below (T1.setTop (mkF m 4 #[.val (.ref u_Optional_EMPTY)] [])) _
    refine XS.aloadN X1.here hx rfl (hb hby d5_4) rfl rfl ?_
    exact k
  obtain ⟨fs, hr, hrun, hended, hW, hsame⟩ := X1.leave (v := some (.ref u_Optional_EMPTY)) (fun h => by rw [Bd.returns] at h; cases h)
  refine ⟨_, _, k2 _ ?_, hrun, hended, _, _, rfl, ?_, ⟨_, rfl⟩, hW, hsame.mono (by decide) (by decide)⟩
  · exact retOut X1 hx Bd.returns rfl (Or.inr (Or.inr (Or.inr (Or.inr ⟨rfl, rfl, rfl⟩)))) (hb hby d5_5) hr
  · show Q5 Z u_Optional_EMPTY h0 n0 _ T1.heap _
    rw [e1]
    exact ⟨rfl, N0, rfl⟩
theorem d6_0 : decode jdk_32_method_15_code 0 = .ok (.aload_n 0, 1) := by decide +kernel
theorem d6_1 : decode jdk_32_method_15_code 1 = .ok (.getfield 13, 3) := by decide +kernel
theorem d6_4 : decode jdk_32_method_15_code 4 = .ok (.ifnull 10, 3) := by decide +kernel
theorem d6_7 : decode jdk_32_method_15_code 7 = .ok (.aload_n 0, 1) := by decide +kernel
theorem d6_8 : decode jdk_32_method_15_code 8 = .ok (.getfield 13, 3) := by decide +kernel
theorem d6_11 : decode jdk_32_method_15_code 11 = .ok (.goto 4, 3) := by decide +kernel
theorem d6_15 : decode jdk_32_method_15_code 15 = .ok (.areturn, 1) := by decide +kernel
theorem ef_6 (m : MethodId) (a6_0 : Addr) : entryFrame m #[(.ref a6_0), .null] 2 = mkF m 0 #[.val (.ref a6_0), .val .null] [] := by first | (simp [entryFrame, mkF, argsToLocals, Value.category]; done) | rfl
def Q6 (Z : State) (a6_0 : Addr) (x6 : Addr) (h0 : Heap) (n0 : Nat) (v : Option Value) (h : Heap) (L : List Loc) : Prop := v = some (.ref x6) ∧ Fr n0 L ∧ h = h0
set_option maxRecDepth 65536 in
set_option maxHeartbeats 40000000 in
theorem rm6 (l : Launch) (Z : State) (a0 : Array Value) (hw : ∀ d ∈ tables_1, d.before a0 Z = true) (ws : List Jvm.Cond) (a6_0 : Addr) (x6 : Addr) (h0 : Heap) (n0 : Nat) (Z0 : n0 ≤ h0.size) (Fv : Fld Z h0 a6_0 "java/util/Optional" "value" "Ljava/lang/Object;" (.ref x6)) :
    MetFree l (⟨"java/util/Optional", "orElse", "(Ljava/lang/Object;)Ljava/lang/Object;"⟩ : MethodName) (head1 (Jvm.Cond.code (⟨"java/util/Optional", "orElse", "(Ljava/lang/Object;)Ljava/lang/Object;"⟩ : MethodName) jdk_32_method_15_code 2 (some (.object "java/lang/Object")) :: ws) ({ frames := 0, cells := 0, slots := 0, locals := 0 } : Room)) (fun a U => a = #[(.ref a6_0), .null] ∧ Z.Warmed39 U.vm ∧ U.heap = h0) (fun _ _ _ _ _ => True) (fun _ U o U' => ∃ v L, o = .returned v ∧ Q6 Z a6_0 x6 h0 n0 v U'.heap L ∧ FrameEnd U o U' L ({ frames := 0, cells := 0, slots := 0, locals := 0 } : Room).cells ({ frames := 0, cells := 0, slots := 0, locals := 0 } : Room).slots) := by
  refine MetFree.of_bodySF (plainFor_of_name pn_2) hisR ?_
  intro p e s m args below meth c s₁ Bd hml0 hP hK
  obtain ⟨rfl, hZ, hh⟩ := hP
  have hx := Bd.exec
  have hby := Bd.bytes
  have hml : c.maxLocals = 2 := hml0
  have hown : s.vm.findClass "java/util/Optional" = some m.cls := findClass_of_methodNamed Bd.named
  have hnm := (name_of_methodNamed Bd.named Bd.method).1
  have X0 : Stand p l e ({ frames := 0, cells := 0, slots := 0, locals := 0 } : Room) s m #[(.ref a6_0), .null] below meth c s₁ [] 0 0 := Stand.of_body Bd
  have e0 : s₁.heap = h0 := by rw [← hh, Bd.state]; rfl
  have N0 := Fr.nil n0
  have pre0 : ∀ t, Steps p.tables e below (s₁.setTop (mkF m 0 #[.val (.ref a6_0), .val .null] [])) t → Steps p.tables e below (s₁.setTop (entryFrame m #[(.ref a6_0), .null] 2)) t := fun t k => castTop (ef_6 m a6_0) k
  obtain ⟨T1, X1, e1, st1⟩ := getF X0 hx hZ hown (host := "") (Or.inl (hw _ (List.mem_of_getElem? (i := 46) rfl))) Via.refl e0 Fv (g := (mkF m 1 #[.val (.ref a6_0), .val .null] [(.ref a6_0)])) rfl rfl (hb hby d6_1)
  obtain ⟨T2, X2, e2, st2⟩ := getF X1 hx hZ hown (host := "") (Or.inl (hw _ (List.mem_of_getElem? (i := 46) rfl))) Via.refl e1 Fv (g := (mkF m 8 #[.val (.ref a6_0), .val .null] [(.ref a6_0)])) rfl rfl (hb hby d6_8)
  have k3 : ∀ t, Steps p.tables e below (T2.setTop (mkF m 15 #[.val (.ref a6_0), .val .null] [(.ref x6)])) t → Steps p.tables e below (s₁.setTop (entryFrame m #[(.ref a6_0), .null] 2)) t := by
    intro t k
    refine pre0 t ?_
    show Steps p.tables e below (s₁.setTop (mkF m 0 #[.val (.ref a6_0), .val .null] [])) _
    refine XS.aloadN X0.here hx rfl (hb hby d6_0) rfl rfl ?_
    show Steps p.tables e below (s₁.setTop (mkF m 1 #[.val (.ref a6_0), .val .null] [(.ref a6_0)])) _
    refine st1 _ ?_
    show Steps p.tables e below (T1.setTop (mkF m 4 #[.val (.ref a6_0), .val .null] [(.ref x6)])) _
    refine XS.ifnullNo X1.here hx rfl (hb hby d6_4) rfl ?_
    show Steps p.tables e below (T1.setTop (mkF m 7 #[.val (.ref a6_0), .val .null] [])) _
    refine XS.aloadN X1.here hx rfl (hb hby d6_7) rfl rfl ?_
    show Steps p.tables e below (T1.setTop (mkF m 8 #[.val (.ref a6_0), .val .null] [(.ref a6_0)])) _
    refine st2 _ ?_
    show Steps p.tables e below (T2.setTop (mkF m 11 #[.val (.ref a6_0), .val .null] [(.ref x6)])) _
    refine XS.goto X2.here hx rfl (pc0 := 11) (pc' := 15) rfl (hb hby d6_11) (by decide) (by decide) ?_
    exact k
  obtain ⟨fs, hr, hrun, hended, hW, hsame⟩ := X2.leave (v := some (.ref x6)) (fun h => by rw [Bd.returns] at h; cases h)
  refine ⟨_, _, k3 _ ?_, hrun, hended, _, _, rfl, ?_, ⟨_, rfl⟩, hW, hsame.mono (by decide) (by decide)⟩
  · exact retOut X2 hx Bd.returns rfl (Or.inr (Or.inr (Or.inr (Or.inr ⟨rfl, rfl, rfl⟩)))) (hb hby d6_15) hr
  · show Q6 Z a6_0 x6 h0 n0 _ T2.heap _
    rw [e2]
    exact ⟨rfl, N0, rfl⟩
theorem d7_0 : decode jdk_32_method_15_code 0 = .ok (.aload_n 0, 1) := by decide +kernel
theorem d7_1 : decode jdk_32_method_15_code 1 = .ok (.getfield 13, 3) := by decide +kernel
theorem d7_4 : decode jdk_32_method_15_code 4 = .ok (.ifnull 10, 3) := by decide +kernel
theorem d7_14 : decode jdk_32_method_15_code 14 = .ok (.aload_n 1, 1) := by decide +kernel
theorem d7_15 : decode jdk_32_method_15_code 15 = .ok (.areturn, 1) := by decide +kernel
theorem ef_7 (m : MethodId) (a7_0 : Addr) : entryFrame m #[(.ref a7_0), .null] 2 = mkF m 0 #[.val (.ref a7_0), .val .null] [] := by first | (simp [entryFrame, mkF, argsToLocals, Value.category]; done) | rfl
def Q7 (Z : State) (a7_0 : Addr) (h0 : Heap) (n0 : Nat) (v : Option Value) (h : Heap) (L : List Loc) : Prop := v = some .null ∧ Fr n0 L ∧ h = h0
set_option maxRecDepth 65536 in
set_option maxHeartbeats 40000000 in
theorem rm7 (l : Launch) (Z : State) (a0 : Array Value) (hw : ∀ d ∈ tables_1, d.before a0 Z = true) (ws : List Jvm.Cond) (a7_0 : Addr) (h0 : Heap) (n0 : Nat) (Z0 : n0 ≤ h0.size) (Fv : Fld Z h0 a7_0 "java/util/Optional" "value" "Ljava/lang/Object;" .null) :
    MetFree l (⟨"java/util/Optional", "orElse", "(Ljava/lang/Object;)Ljava/lang/Object;"⟩ : MethodName) (head1 (Jvm.Cond.code (⟨"java/util/Optional", "orElse", "(Ljava/lang/Object;)Ljava/lang/Object;"⟩ : MethodName) jdk_32_method_15_code 2 (some (.object "java/lang/Object")) :: ws) ({ frames := 0, cells := 0, slots := 0, locals := 0 } : Room)) (fun a U => a = #[(.ref a7_0), .null] ∧ Z.Warmed39 U.vm ∧ U.heap = h0) (fun _ _ _ _ _ => True) (fun _ U o U' => ∃ v L, o = .returned v ∧ Q7 Z a7_0 h0 n0 v U'.heap L ∧ FrameEnd U o U' L ({ frames := 0, cells := 0, slots := 0, locals := 0 } : Room).cells ({ frames := 0, cells := 0, slots := 0, locals := 0 } : Room).slots) := by
  refine MetFree.of_bodySF (plainFor_of_name pn_2) hisR ?_
  intro p e s m args below meth c s₁ Bd hml0 hP hK
  obtain ⟨rfl, hZ, hh⟩ := hP
  have hx := Bd.exec
  have hby := Bd.bytes
  have hml : c.maxLocals = 2 := hml0
  have hown : s.vm.findClass "java/util/Optional" = some m.cls := findClass_of_methodNamed Bd.named
  have hnm := (name_of_methodNamed Bd.named Bd.method).1
  have X0 : Stand p l e ({ frames := 0, cells := 0, slots := 0, locals := 0 } : Room) s m #[(.ref a7_0), .null] below meth c s₁ [] 0 0 := Stand.of_body Bd
  have e0 : s₁.heap = h0 := by rw [← hh, Bd.state]; rfl
  have N0 := Fr.nil n0
  have pre0 : ∀ t, Steps p.tables e below (s₁.setTop (mkF m 0 #[.val (.ref a7_0), .val .null] [])) t → Steps p.tables e below (s₁.setTop (entryFrame m #[(.ref a7_0), .null] 2)) t := fun t k => castTop (ef_7 m a7_0) k
  obtain ⟨T1, X1, e1, st1⟩ := getF X0 hx hZ hown (host := "") (Or.inl (hw _ (List.mem_of_getElem? (i := 46) rfl))) Via.refl e0 Fv (g := (mkF m 1 #[.val (.ref a7_0), .val .null] [(.ref a7_0)])) rfl rfl (hb hby d7_1)
  have k2 : ∀ t, Steps p.tables e below (T1.setTop (mkF m 15 #[.val (.ref a7_0), .val .null] [.null])) t → Steps p.tables e below (s₁.setTop (entryFrame m #[(.ref a7_0), .null] 2)) t := by
    intro t k
    refine pre0 t ?_
    show Steps p.tables e below (s₁.setTop (mkF m 0 #[.val (.ref a7_0), .val .null] [])) _
    refine XS.aloadN X0.here hx rfl (hb hby d7_0) rfl rfl ?_
    show Steps p.tables e below (s₁.setTop (mkF m 1 #[.val (.ref a7_0), .val .null] [(.ref a7_0)])) _
    refine st1 _ ?_
    show Steps p.tables e below (T1.setTop (mkF m 4 #[.val (.ref a7_0), .val .null] [.null])) _
    refine XS.ifnullYes X1.here hx rfl (pc0 := 4) (pc' := 14) rfl (hb hby d7_4) rfl (by decide) (by decide) ?_
    show Steps p.tables e below (T1.setTop (mkF m 14 #[.val (.ref a7_0), .val .null] [])) _
    refine XS.aloadN X1.here hx rfl (hb hby d7_14) rfl rfl ?_
    exact k
  obtain ⟨fs, hr, hrun, hended, hW, hsame⟩ := X1.leave (v := some .null) (fun h => by rw [Bd.returns] at h; cases h)
  refine ⟨_, _, k2 _ ?_, hrun, hended, _, _, rfl, ?_, ⟨_, rfl⟩, hW, hsame.mono (by decide) (by decide)⟩
  · exact retOut X1 hx Bd.returns rfl (Or.inr (Or.inr (Or.inr (Or.inr ⟨rfl, rfl, rfl⟩)))) (hb hby d7_15) hr
  · show Q7 Z a7_0 h0 n0 _ T1.heap _
    rw [e1]
    exact ⟨rfl, N0, rfl⟩
theorem pd_2 : parseMethodDescriptor "()[Lcom/example/leanweave/leanweave/Objective;" = some ⟨[], some (.array (.object "com/example/leanweave/leanweave/Objective"))⟩ := by decide +kernel
theorem pd_3 : parseMethodDescriptor "(Ljava/lang/Object;)Ljava/util/Optional;" = some ⟨[(.object "java/lang/Object")], some (.object "java/util/Optional")⟩ := by decide +kernel
theorem d8_0 : decode prog_17_method_6_code 0 = .ok (.invokestatic 46, 3) := by decide +kernel
theorem d8_3 : decode prog_17_method_6_code 3 = .ok (.astore_n 1, 1) := by decide +kernel
theorem d8_4 : decode prog_17_method_6_code 4 = .ok (.aload_n 1, 1) := by decide +kernel
theorem d8_5 : decode prog_17_method_6_code 5 = .ok (.arraylength, 1) := by decide +kernel
theorem d8_6 : decode prog_17_method_6_code 6 = .ok (.istore_n 2, 1) := by decide +kernel
theorem d8_7 : decode prog_17_method_6_code 7 = .ok (.iconst 0, 1) := by decide +kernel
theorem d8_8 : decode prog_17_method_6_code 8 = .ok (.istore_n 3, 1) := by decide +kernel
theorem d8_9 : decode prog_17_method_6_code 9 = .ok (.iload_n 3, 1) := by decide +kernel
theorem d8_10 : decode prog_17_method_6_code 10 = .ok (.iload_n 2, 1) := by decide +kernel
theorem d8_11 : decode prog_17_method_6_code 11 = .ok (.if_icmp .ge 37, 3) := by decide +kernel
theorem d8_14 : decode prog_17_method_6_code 14 = .ok (.aload_n 1, 1) := by decide +kernel
theorem d8_15 : decode prog_17_method_6_code 15 = .ok (.iload_n 3, 1) := by decide +kernel
theorem d8_16 : decode prog_17_method_6_code 16 = .ok (.aaload, 1) := by decide +kernel
theorem d8_17 : decode prog_17_method_6_code 17 = .ok (.astore 4, 2) := by decide +kernel
theorem d8_19 : decode prog_17_method_6_code 19 = .ok (.aload 4, 2) := by decide +kernel
theorem d8_21 : decode prog_17_method_6_code 21 = .ok (.getfield 36, 3) := by decide +kernel
theorem d8_24 : decode prog_17_method_6_code 24 = .ok (.ifnull 18, 3) := by decide +kernel
theorem d8_27 : decode prog_17_method_6_code 27 = .ok (.aload 4, 2) := by decide +kernel
theorem d8_29 : decode prog_17_method_6_code 29 = .ok (.getfield 36, 3) := by decide +kernel
theorem d8_32 : decode prog_17_method_6_code 32 = .ok (.aload_n 0, 1) := by decide +kernel
theorem d8_33 : decode prog_17_method_6_code 33 = .ok (.if_acmp .ne 9, 3) := by decide +kernel
theorem d8_36 : decode prog_17_method_6_code 36 = .ok (.aload 4, 2) := by decide +kernel
theorem d8_38 : decode prog_17_method_6_code 38 = .ok (.invokestatic 50, 3) := by decide +kernel
theorem d8_41 : decode prog_17_method_6_code 41 = .ok (.areturn, 1) := by decide +kernel
theorem d8_42 : decode prog_17_method_6_code 42 = .ok (.iinc 3 1, 3) := by decide +kernel
theorem d8_45 : decode prog_17_method_6_code 45 = .ok (.goto (-36), 3) := by decide +kernel
theorem ef_8 (m : MethodId) (u_QosMeasure_RESPONSE_TIME : Addr) : entryFrame m #[(.ref u_QosMeasure_RESPONSE_TIME)] 5 = mkF m 0 #[.val (.ref u_QosMeasure_RESPONSE_TIME), .unset, .unset, .unset, .unset] [] := by first | (simp [entryFrame, mkF, argsToLocals, Value.category]; done) | rfl
def Q8 (Z : State) (u_QosMeasure_RESPONSE_TIME : Addr) (u_Objective__VALUES : Addr) (u_Objective_SERVICES : Addr) (u_Objective_RESPONSE_TIME : Addr) (u_Objective_THROUGHPUT : Addr) (kk : ClassId) (h0 : Heap) (n0 : Nat) (v : Option Value) (h : Heap) (L : List Loc) : Prop := ∃ b8 : Addr, v = some (.ref b8) ∧ Fr n0 L ∧ Keep h0 h [] ∧ n0 ≤ b8 ∧ h0.size ≤ b8 ∧ Exa Z h b8 "java/util/Optional" ∧ Fld Z h b8 "java/util/Optional" "value" "Ljava/lang/Object;" (.ref u_Objective_RESPONSE_TIME)
set_option maxRecDepth 65536 in
set_option maxHeartbeats 40000000 in
theorem rm8 (l : Launch) (Z : State) (a0 : Array Value) (hw : ∀ d ∈ tables_1, d.before a0 Z = true) (ws : List Jvm.Cond) (u_QosMeasure_RESPONSE_TIME : Addr) (u_Objective__VALUES : Addr) (u_Objective_SERVICES : Addr) (u_Objective_RESPONSE_TIME : Addr) (u_Objective_THROUGHPUT : Addr) (kk : ClassId) (h0 : Heap) (n0 : Nat) (Z0 : n0 ≤ h0.size) (Sv : Sta Z h0 "com/example/leanweave/leanweave/Objective" "$VALUES" "[Lcom/example/leanweave/leanweave/Objective;" (.ref u_Objective__VALUES)) (Vv : Arv Z h0 u_Objective__VALUES kk (.object "com/example/leanweave/leanweave/Objective") (3 : Int32) [(.ref u_Objective_SERVICES), (.ref u_Objective_RESPONSE_TIME), (.ref u_Objective_THROUGHPUT)] .null) (Ev : Exa Z h0 u_Objective__VALUES "[Lcom/example/leanweave/leanweave/Objective;") (FmS : Fld Z h0 u_Objective_SERVICES "com/example/leanweave/leanweave/Objective" "measure" "Lcom/example/leanweave/leanweave/QosMeasure;" .null) (FmR : Fld Z h0 u_Objective_RESPONSE_TIME "com/example/leanweave/leanweave/Objective" "measure" "Lcom/example/leanweave/leanweave/QosMeasure;" (.ref u_QosMeasure_RESPONSE_TIME)) :
    MetFree l (⟨"com/example/leanweave/leanweave/Objective", "seeking", "(Lcom/example/leanweave/leanweave/QosMeasure;)Ljava/util/Optional;"⟩ : MethodName) (head1 (Jvm.Cond.code (⟨"com/example/leanweave/leanweave/Objective", "seeking", "(Lcom/example/leanweave/leanweave/QosMeasure;)Ljava/util/Optional;"⟩ : MethodName) prog_17_method_6_code 5 (some (.object "java/util/Optional")) :: ws) ({ frames := 3, cells := 2, slots := 4, locals := 38 } : Room)) (fun a U => a = #[(.ref u_QosMeasure_RESPONSE_TIME)] ∧ Z.Warmed39 U.vm ∧ U.heap = h0) (fun _ _ _ _ _ => True) (fun _ U o U' => ∃ v L, o = .returned v ∧ Q8 Z u_QosMeasure_RESPONSE_TIME u_Objective__VALUES u_Objective_SERVICES u_Objective_RESPONSE_TIME u_Objective_THROUGHPUT kk h0 n0 v U'.heap L ∧ FrameEnd U o U' L ({ frames := 3, cells := 2, slots := 4, locals := 38 } : Room).cells ({ frames := 3, cells := 2, slots := 4, locals := 38 } : Room).slots) := by
  refine MetFree.of_bodySF (plainFor_of_name pn_0) hisR ?_
  intro p e s m args below meth c s₁ Bd hml0 hP hK
  obtain ⟨rfl, hZ, hh⟩ := hP
  have hx := Bd.exec
  have hby := Bd.bytes
  have hml : c.maxLocals = 5 := hml0
  have hown : s.vm.findClass "com/example/leanweave/leanweave/Objective" = some m.cls := findClass_of_methodNamed Bd.named
  have hnm := (name_of_methodNamed Bd.named Bd.method).1
  have X0 : Stand p l e ({ frames := 3, cells := 2, slots := 4, locals := 38 } : Room) s m #[(.ref u_QosMeasure_RESPONSE_TIME)] below meth c s₁ [] 0 0 := Stand.of_body Bd
  have e0 : s₁.heap = h0 := by rw [← hh, Bd.state]; rfl
  have N0 := Fr.nil n0
  have pre0 : ∀ t, Steps p.tables e below (s₁.setTop (mkF m 0 #[.val (.ref u_QosMeasure_RESPONSE_TIME), .unset, .unset, .unset, .unset] [])) t → Steps p.tables e below (s₁.setTop (entryFrame m #[(.ref u_QosMeasure_RESPONSE_TIME)] 5)) t := fun t k => castTop (ef_8 m u_QosMeasure_RESPONSE_TIME) k
  obtain ⟨_, _, ⟨T1, L1, k1, n1⟩, -, X1, ⟨Lc1, hQ1, l1, y1, z1⟩, st1⟩ := Jvm.LawKit.callS X0 hx (y := (⟨"com/example/leanweave/leanweave/Objective", "values", "()[Lcom/example/leanweave/leanweave/Objective;"⟩ : MethodName)) hown (mvT hZ (hw _ (List.mem_of_getElem? (i := 10) rfl))) (mvT hZ (hw _ (List.mem_of_getElem? (i := 11) rfl))) (mvT hZ (hw _ (List.mem_of_getElem? (i := 5) rfl))) (mvT hZ (hw _ (List.mem_of_getElem? (i := 12) rfl))) (by decide) (backOf (W := 0) (rm1 l Z a0 hw [] u_Objective__VALUES u_Objective_SERVICES u_Objective_RESPONSE_TIME u_Objective_THROUGHPUT kk h0 n0 Z0 Sv Vv Ev) hZ (hw _ (List.mem_of_getElem? (i := 12) rfl)) (hw _ (List.mem_of_getElem? (i := 5) rfl)) (by decide) (by decide)) (g := (mkF m 0 #[.val (.ref u_QosMeasure_RESPONSE_TIME), .unset, .unset, .unset, .unset] [])) rfl (by rw [hml]; rfl) (argsL := []) (rest := []) (lenOf pd_2 rfl) rfl (by show 2 * 0 + _ ≤ _; exact Nat.le_of_eq rfl) (hb hby d8_0) (fun _ _ => ⟨rfl, e0, (by decide : 0 + 1 ≤ _), (by decide : 0 + 3 ≤ _)⟩)
  dsimp only [Pt.U, Pt.locs, Pt.cells, Pt.slots] at X1 l1 y1 z1 st1 hQ1
  subst l1 y1 z1
  obtain ⟨b1_1, rfl, N1q, Kc1, ggb1_1, szb1_1, G1_0, G1_1⟩ := hQ1
  have ne2 : u_Objective__VALUES ≠ b1_1 := Nat.ne_of_lt (Nat.lt_of_lt_of_le Vv.lt szb1_1)
  have ne3 : u_Objective_SERVICES ≠ b1_1 := Nat.ne_of_lt (Nat.lt_of_lt_of_le FmS.lt szb1_1)
  have ne4 : u_Objective_RESPONSE_TIME ≠ b1_1 := Nat.ne_of_lt (Nat.lt_of_lt_of_le FmR.lt szb1_1)
  have szzb1_1 : h0.size ≤ b1_1 := Nat.le_trans (Keep.refl h0 []).1 szb1_1
  have Zs1 : n0 ≤ T1.heap.size := Nat.le_trans Z0 Kc1.1
  have K1 : Keep h0 T1.heap [] := (Keep.refl h0 []).trans Kc1 all0
  have F5 : Sta Z T1.heap "com/example/leanweave/leanweave/Objective" "$VALUES" "[Lcom/example/leanweave/leanweave/Objective;" (.ref u_Objective__VALUES) := own_stakeep Sv Kc1 all0
  have F6 : Arv Z T1.heap u_Objective__VALUES kk (.object "com/example/leanweave/leanweave/Objective") (3 : Int32) [(.ref u_Objective_SERVICES), (.ref u_Objective_RESPONSE_TIME), (.ref u_Objective_THROUGHPUT)] .null := Vv.keep Kc1 nin0
  have F7 : Exa Z T1.heap u_Objective__VALUES "[Lcom/example/leanweave/leanweave/Objective;" := Ev.keep Kc1
  have F8 : Fld Z T1.heap u_Objective_SERVICES "com/example/leanweave/leanweave/Objective" "measure" "Lcom/example/leanweave/leanweave/QosMeasure;" .null := FmS.keep Kc1 nin0
  have F9 : Fld Z T1.heap u_Objective_RESPONSE_TIME "com/example/leanweave/leanweave/Objective" "measure" "Lcom/example/leanweave/leanweave/QosMeasure;" (.ref u_QosMeasure_RESPONSE_TIME) := FmR.keep Kc1 nin0
  have N1 := Fr.app N0 N1q
  obtain ⟨cl10, Ar10, qc10, Sz10, Nn10, Hh10, Gg10⟩ := (id G1_0)
  obtain ⟨cl11, Ar11, qc11, Sz11, Nn11, Hh11, Gg11⟩ := (id G1_0)
  have hin11 : ¬ ((0 : Int32) < 0 ∨ cl11.slots.size ≤ ((0 : Int32)).toNatClampNeg) := inb_of Sz11 ⟨by decide, by decide⟩
  obtain ⟨T12, X12, e12, st12⟩ := getF X1 hx hZ hown (host := "") (Or.inl (hw _ (List.mem_of_getElem? (i := 27) rfl))) Via.refl rfl F8 (g := (mkF m 21 #[.val (.ref u_QosMeasure_RESPONSE_TIME), .val (.ref b1_1), .val (.int (3 : Int32)), .val (.int (0 : Int32)), .val (.ref u_Objective_SERVICES)] [(.ref u_Objective_SERVICES)])) rfl rfl (hb hby d8_21)
  obtain ⟨cl13, Ar13, qc13, Sz13, Nn13, Hh13, Gg13⟩ := (id G1_0)
  have hin13 : ¬ ((1 : Int32) < 0 ∨ cl13.slots.size ≤ ((1 : Int32)).toNatClampNeg) := inb_of Sz13 ⟨by decide, by decide⟩
  obtain ⟨T14, X14, e14, st14⟩ := getF X12 hx hZ hown (host := "") (Or.inl (hw _ (List.mem_of_getElem? (i := 27) rfl))) Via.refl e12 F9 (g := (mkF m 21 #[.val (.ref u_QosMeasure_RESPONSE_TIME), .val (.ref b1_1), .val (.int (3 : Int32)), .val (.int (1 : Int32)), .val (.ref u_Objective_RESPONSE_TIME)] [(.ref u_Objective_RESPONSE_TIME)])) rfl rfl (hb hby d8_21)
  obtain ⟨T15, X15, e15, st15⟩ := getF X14 hx hZ hown (host := "") (Or.inl (hw _ (List.mem_of_getElem? (i := 27) rfl))) Via.refl e14 F9 (g := (mkF m 29 #[.val (.ref u_QosMeasure_RESPONSE_TIME), .val (.ref b1_1), .val (.int (3 : Int32)), .val (.int (1 : Int32)), .val (.ref u_Objective_RESPONSE_TIME)] [(.ref u_Objective_RESPONSE_TIME)])) rfl rfl (hb hby d8_29)
  obtain ⟨_, _, ⟨T16, L16, k16, n16⟩, -, X16, ⟨Lc16, hQ16, l16, y16, z16⟩, st16⟩ := Jvm.LawKit.callS X15 hx (y := (⟨"java/util/Optional", "of", "(Ljava/lang/Object;)Ljava/util/Optional;"⟩ : MethodName)) hown (mvT hZ (hw _ (List.mem_of_getElem? (i := 29) rfl))) (mvT hZ (hw _ (List.mem_of_getElem? (i := 30) rfl))) (mvT hZ (hw _ (List.mem_of_getElem? (i := 31) rfl))) (mvT hZ (hw _ (List.mem_of_getElem? (i := 32) rfl))) (by decide) (backOf (W := 0) (rm4 l Z a0 hw [] u_Objective_RESPONSE_TIME T1.heap n0 Zs1 ) hZ (hw _ (List.mem_of_getElem? (i := 32) rfl)) (hw _ (List.mem_of_getElem? (i := 31) rfl)) (by decide) (by decide)) (g := (mkF m 38 #[.val (.ref u_QosMeasure_RESPONSE_TIME), .val (.ref b1_1), .val (.int (3 : Int32)), .val (.int (1 : Int32)), .val (.ref u_Objective_RESPONSE_TIME)] [(.ref u_Objective_RESPONSE_TIME)])) rfl (by rw [hml]; rfl) (argsL := [(.ref u_Objective_RESPONSE_TIME)]) (rest := []) (lenOf pd_3 rfl) rfl (by show 2 * 0 + _ ≤ _; exact Nat.le_of_eq rfl) (hb hby d8_38) (fun _ _ => ⟨rfl, e15, (by decide : 1 + 1 ≤ _), (by decide : 3 + 1 ≤ _)⟩)
  dsimp only [Pt.U, Pt.locs, Pt.cells, Pt.slots] at X16 l16 y16 z16 st16 hQ16
  subst l16 y16 z16
  obtain ⟨b4_16, rfl, N16q, Kc16, ggb4_16, szb4_16, G16_0, G16_1⟩ := hQ16
  have ne17 : u_Objective__VALUES ≠ b4_16 := Nat.ne_of_lt (Nat.lt_of_lt_of_le F6.lt szb4_16)
  have ne18 : u_Objective_SERVICES ≠ b4_16 := Nat.ne_of_lt (Nat.lt_of_lt_of_le F8.lt szb4_16)
  have ne19 : u_Objective_RESPONSE_TIME ≠ b4_16 := Nat.ne_of_lt (Nat.lt_of_lt_of_le F9.lt szb4_16)
  have ne20 : b1_1 ≠ b4_16 := Nat.ne_of_lt (Nat.lt_of_lt_of_le G1_0.lt szb4_16)
  have szzb4_16 : h0.size ≤ b4_16 := Nat.le_trans K1.1 szb4_16
  have Zs16 : n0 ≤ T16.heap.size := Nat.le_trans Zs1 Kc16.1
  have K16 : Keep h0 T16.heap [] := K1.trans Kc16 all0
  have F21 : Sta Z T16.heap "com/example/leanweave/leanweave/Objective" "$VALUES" "[Lcom/example/leanweave/leanweave/Objective;" (.ref u_Objective__VALUES) := own_stakeep F5 Kc16 all0
  have F22 : Arv Z T16.heap u_Objective__VALUES kk (.object "com/example/leanweave/leanweave/Objective") (3 : Int32) [(.ref u_Objective_SERVICES), (.ref u_Objective_RESPONSE_TIME), (.ref u_Objective_THROUGHPUT)] .null := F6.keep Kc16 nin0
  have F23 : Exa Z T16.heap u_Objective__VALUES "[Lcom/example/leanweave/leanweave/Objective;" := F7.keep Kc16
  have F24 : Fld Z T16.heap u_Objective_SERVICES "com/example/leanweave/leanweave/Objective" "measure" "Lcom/example/leanweave/leanweave/QosMeasure;" .null := F8.keep Kc16 nin0
  have F25 : Fld Z T16.heap u_Objective_RESPONSE_TIME "com/example/leanweave/leanweave/Objective" "measure" "Lcom/example/leanweave/leanweave/QosMeasure;" (.ref u_QosMeasure_RESPONSE_TIME) := F9.keep Kc16 nin0
  have F26 : Arv Z T16.heap b1_1 kk (.object "com/example/leanweave/leanweave/Objective") (3 : Int32) [(.ref u_Objective_SERVICES), (.ref u_Objective_RESPONSE_TIME), (.ref u_Objective_THROUGHPUT)] .null := G1_0.keep Kc16 nin0
  have F27 : Exa Z T16.heap b1_1 "[Lcom/example/leanweave/leanweave/Objective;" := G1_1.keep Kc16
  have N16 := Fr.app N1 N16q
  have k28 : ∀ t, Steps p.tables e below (T16.setTop (mkF m 41 #[.val (.ref u_QosMeasure_RESPONSE_TIME), .val (.ref b1_1), .val (.int (3 : Int32)), .val (.int (1 : Int32)), .val (.ref u_Objective_RESPONSE_TIME)] [(.ref b4_16)])) t → Steps p.tables e below (s₁.setTop (entryFrame m #[(.ref u_QosMeasure_RESPONSE_TIME)] 5)) t := by
    intro t k
    refine pre0 t ?_
    show Steps p.tables e below (s₁.setTop (mkF m 0 #[.val (.ref u_QosMeasure_RESPONSE_TIME), .unset, .unset, .unset, .unset] [])) _
    refine st1 _ ?_
    show Steps p.tables e below (T1.setTop (mkF m 3 #[.val (.ref u_QosMeasure_RESPONSE_TIME), .unset, .unset, .unset, .unset] [(.ref b1_1)])) _
    refine XS.astoreN X1.here hx rfl (hb hby d8_3) rfl rfl (l' := #[.val (.ref u_QosMeasure_RESPONSE_TIME), .val (.ref b1_1), .unset, .unset, .unset]) rfl ?_
    show Steps p.tables e below (T1.setTop (mkF m 4 #[.val (.ref u_QosMeasure_RESPONSE_TIME), .val (.ref b1_1), .unset, .unset, .unset] [])) _
    refine XS.aloadN X1.here hx rfl (hb hby d8_4) rfl rfl ?_
    show Steps p.tables e below (T1.setTop (mkF m 5 #[.val (.ref u_QosMeasure_RESPONSE_TIME), .val (.ref b1_1), .unset, .unset, .unset] [(.ref b1_1)])) _
    refine X1.arraylength hx Ar10.1 (State.isArrayOf_alike hZ.alike Ar10.2.1) (g := (mkF m 5 #[.val (.ref u_QosMeasure_RESPONSE_TIME), .val (.ref b1_1), .unset, .unset, .unset] [(.ref b1_1)])) rfl rfl (hb hby d8_5) _ ?_
    rw [len_of Sz10 Nn10]
    show Steps p.tables e below (T1.setTop (mkF m 6 #[.val (.ref u_QosMeasure_RESPONSE_TIME), .val (.ref b1_1), .unset, .unset, .unset] [(.int (3 : Int32))])) _
    refine XS.istoreN X1.here hx rfl (hb hby d8_6) rfl (l' := #[.val (.ref u_QosMeasure_RESPONSE_TIME), .val (.ref b1_1), .val (.int (3 : Int32)), .unset, .unset]) rfl ?_
    show Steps p.tables e below (T1.setTop (mkF m 7 #[.val (.ref u_QosMeasure_RESPONSE_TIME), .val (.ref b1_1), .val (.int (3 : Int32)), .unset, .unset] [])) _
    refine XS.iconst X1.here hx rfl (hb hby d8_7) ?_
    show Steps p.tables e below (T1.setTop (mkF m 8 #[.val (.ref u_QosMeasure_RESPONSE_TIME), .val (.ref b1_1), .val (.int (3 : Int32)), .unset, .unset] [(.int (0 : Int32))])) _
    refine XS.istoreN X1.here hx rfl (hb hby d8_8) rfl (l' := #[.val (.ref u_QosMeasure_RESPONSE_TIME), .val (.ref b1_1), .val (.int (3 : Int32)), .val (.int (0 : Int32)), .unset]) rfl ?_
    show Steps p.tables e below (T1.setTop (mkF m 9 #[.val (.ref u_QosMeasure_RESPONSE_TIME), .val (.ref b1_1), .val (.int (3 : Int32)), .val (.int (0 : Int32)), .unset] [])) _
    refine XS.iloadN X1.here hx rfl (hb hby d8_9) rfl ?_
    show Steps p.tables e below (T1.setTop (mkF m 10 #[.val (.ref u_QosMeasure_RESPONSE_TIME), .val (.ref b1_1), .val (.int (3 : Int32)), .val (.int (0 : Int32)), .unset] [(.int (0 : Int32))])) _
    refine XS.iloadN X1.here hx rfl (hb hby d8_10) rfl ?_
    show Steps p.tables e below (T1.setTop (mkF m 11 #[.val (.ref u_QosMeasure_RESPONSE_TIME), .val (.ref b1_1), .val (.int (3 : Int32)), .val (.int (0 : Int32)), .unset] [(.int (3 : Int32)), (.int (0 : Int32))])) _
    refine XS.icmpNo X1.here hx rfl (hb hby d8_11) rfl (tlt (by decide : (0 : Int32) < (3 : Int32))).2.1 ?_
    show Steps p.tables e below (T1.setTop (mkF m 14 #[.val (.ref u_QosMeasure_RESPONSE_TIME), .val (.ref b1_1), .val (.int (3 : Int32)), .val (.int (0 : Int32)), .unset] [])) _
    refine XS.aloadN X1.here hx rfl (hb hby d8_14) rfl rfl ?_
    show Steps p.tables e below (T1.setTop (mkF m 15 #[.val (.ref u_QosMeasure_RESPONSE_TIME), .val (.ref b1_1), .val (.int (3 : Int32)), .val (.int (0 : Int32)), .unset] [(.ref b1_1)])) _
    refine XS.iloadN X1.here hx rfl (hb hby d8_15) rfl ?_
    show Steps p.tables e below (T1.setTop (mkF m 16 #[.val (.ref u_QosMeasure_RESPONSE_TIME), .val (.ref b1_1), .val (.int (3 : Int32)), .val (.int (0 : Int32)), .unset] [(.int (0 : Int32)), (.ref b1_1)])) _
    refine X1.aaload hx (j := (0 : Int32)) (v := (.ref u_Objective_SERVICES)) Ar11.1 (State.isArrayOf_alike hZ.alike Ar11.2.1) rfl Ar11.2.2 hin11 (Hh11.at hin11 rfl) (g := (mkF m 16 #[.val (.ref u_QosMeasure_RESPONSE_TIME), .val (.ref b1_1), .val (.int (3 : Int32)), .val (.int (0 : Int32)), .unset] [(.int (0 : Int32)), (.ref b1_1)])) rfl rfl (hb hby d8_16) _ ?_
    show Steps p.tables e below (T1.setTop (mkF m 17 #[.val (.ref u_QosMeasure_RESPONSE_TIME), .val (.ref b1_1), .val (.int (3 : Int32)), .val (.int (0 : Int32)), .unset] [(.ref u_Objective_SERVICES)])) _
    refine XS.astore X1.here hx rfl (hb hby d8_17) rfl rfl (l' := #[.val (.ref u_QosMeasure_RESPONSE_TIME), .val (.ref b1_1), .val (.int (3 : Int32)), .val (.int (0 : Int32)), .val (.ref u_Objective_SERVICES)]) rfl ?_
    show Steps p.tables e below (T1.setTop (mkF m 19 #[.val (.ref u_QosMeasure_RESPONSE_TIME), .val (.ref b1_1), .val (.int (3 : Int32)), .val (.int (0 : Int32)), .val (.ref u_Objective_SERVICES)] [])) _
    refine XS.aload X1.here hx rfl (hb hby d8_19) rfl rfl ?_
    show Steps p.tables e below (T1.setTop (mkF m 21 #[.val (.ref u_QosMeasure_RESPONSE_TIME), .val (.ref b1_1), .val (.int (3 : Int32)), .val (.int (0 : Int32)), .val (.ref u_Objective_SERVICES)] [(.ref u_Objective_SERVICES)])) _
    refine st12 _ ?_
    show Steps p.tables e below (T12.setTop (mkF m 24 #[.val (.ref u_QosMeasure_RESPONSE_TIME), .val (.ref b1_1), .val (.int (3 : Int32)), .val (.int (0 : Int32)), .val (.ref u_Objective_SERVICES)] [.null])) _
    refine XS.ifnullYes X12.here hx rfl (pc0 := 24) (pc' := 42) rfl (hb hby d8_24) rfl (by decide) (by decide) ?_
    show Steps p.tables e below (T12.setTop (mkF m 42 #[.val (.ref u_QosMeasure_RESPONSE_TIME), .val (.ref b1_1), .val (.int (3 : Int32)), .val (.int (0 : Int32)), .val (.ref u_Objective_SERVICES)] [])) _
    refine XS.iinc X12.here hx rfl (hb hby d8_42) rfl (l' := #[.val (.ref u_QosMeasure_RESPONSE_TIME), .val (.ref b1_1), .val (.int (3 : Int32)), .val (.int (1 : Int32)), .val (.ref u_Objective_SERVICES)]) rfl ?_
    show Steps p.tables e below (T12.setTop (mkF m 45 #[.val (.ref u_QosMeasure_RESPONSE_TIME), .val (.ref b1_1), .val (.int (3 : Int32)), .val (.int (1 : Int32)), .val (.ref u_Objective_SERVICES)] [])) _
    refine XS.goto X12.here hx rfl (pc0 := 45) (pc' := 9) rfl (hb hby d8_45) (by decide) (by decide) ?_
    show Steps p.tables e below (T12.setTop (mkF m 9 #[.val (.ref u_QosMeasure_RESPONSE_TIME), .val (.ref b1_1), .val (.int (3 : Int32)), .val (.int (1 : Int32)), .val (.ref u_Objective_SERVICES)] [])) _
    refine XS.iloadN X12.here hx rfl (hb hby d8_9) rfl ?_
    show Steps p.tables e below (T12.setTop (mkF m 10 #[.val (.ref u_QosMeasure_RESPONSE_TIME), .val (.ref b1_1), .val (.int (3 : Int32)), .val (.int (1 : Int32)), .val (.ref u_Objective_SERVICES)] [(.int (1 : Int32))])) _
    refine XS.iloadN X12.here hx rfl (hb hby d8_10) rfl ?_
    show Steps p.tables e below (T12.setTop (mkF m 11 #[.val (.ref u_QosMeasure_RESPONSE_TIME), .val (.ref b1_1), .val (.int (3 : Int32)), .val (.int (1 : Int32)), .val (.ref u_Objective_SERVICES)] [(.int (3 : Int32)), (.int (1 : Int32))])) _
    refine XS.icmpNo X12.here hx rfl (hb hby d8_11) rfl (tlt (by decide : (1 : Int32) < (3 : Int32))).2.1 ?_
    show Steps p.tables e below (T12.setTop (mkF m 14 #[.val (.ref u_QosMeasure_RESPONSE_TIME), .val (.ref b1_1), .val (.int (3 : Int32)), .val (.int (1 : Int32)), .val (.ref u_Objective_SERVICES)] [])) _
    refine XS.aloadN X12.here hx rfl (hb hby d8_14) rfl rfl ?_
    show Steps p.tables e below (T12.setTop (mkF m 15 #[.val (.ref u_QosMeasure_RESPONSE_TIME), .val (.ref b1_1), .val (.int (3 : Int32)), .val (.int (1 : Int32)), .val (.ref u_Objective_SERVICES)] [(.ref b1_1)])) _
    refine XS.iloadN X12.here hx rfl (hb hby d8_15) rfl ?_
    show Steps p.tables e below (T12.setTop (mkF m 16 #[.val (.ref u_QosMeasure_RESPONSE_TIME), .val (.ref b1_1), .val (.int (3 : Int32)), .val (.int (1 : Int32)), .val (.ref u_Objective_SERVICES)] [(.int (1 : Int32)), (.ref b1_1)])) _
    refine X12.aaload hx (j := (1 : Int32)) (v := (.ref u_Objective_RESPONSE_TIME)) (by rw [e12]; exact Ar13.1) (State.isArrayOf_alike hZ.alike Ar13.2.1) rfl Ar13.2.2 hin13 (Hh13.at hin13 rfl) (g := (mkF m 16 #[.val (.ref u_QosMeasure_RESPONSE_TIME), .val (.ref b1_1), .val (.int (3 : Int32)), .val (.int (1 : Int32)), .val (.ref u_Objective_SERVICES)] [(.int (1 : Int32)), (.ref b1_1)])) rfl rfl (hb hby d8_16) _ ?_
    show Steps p.tables e below (T12.setTop (mkF m 17 #[.val (.ref u_QosMeasure_RESPONSE_TIME), .val (.ref b1_1), .val (.int (3 : Int32)), .val (.int (1 : Int32)), .val (.ref u_Objective_SERVICES)] [(.ref u_Objective_RESPONSE_TIME)])) _
    refine XS.astore X12.here hx rfl (hb hby d8_17) rfl rfl (l' := #[.val (.ref u_QosMeasure_RESPONSE_TIME), .val (.ref b1_1), .val (.int (3 : Int32)), .val (.int (1 : Int32)), .val (.ref u_Objective_RESPONSE_TIME)]) rfl ?_
    show Steps p.tables e below (T12.setTop (mkF m 19 #[.val (.ref u_QosMeasure_RESPONSE_TIME), .val (.ref b1_1), .val (.int (3 : Int32)), .val (.int (1 : Int32)), .val (.ref u_Objective_RESPONSE_TIME)] [])) _
    refine XS.aload X12.here hx rfl (hb hby d8_19) rfl rfl ?_
    show Steps p.tables e below (T12.setTop (mkF m 21 #[.val (.ref u_QosMeasure_RESPONSE_TIME), .val (.ref b1_1), .val (.int (3 : Int32)), .val (.int (1 : Int32)), .val (.ref u_Objective_RESPONSE_TIME)] [(.ref u_Objective_RESPONSE_TIME)])) _
    refine st14 _ ?_
    show Steps p.tables e below (T14.setTop (mkF m 24 #[.val (.ref u_QosMeasure_RESPONSE_TIME), .val (.ref b1_1), .val (.int (3 : Int32)), .val (.int (1 : Int32)), .val (.ref u_Objective_RESPONSE_TIME)] [(.ref u_QosMeasure_RESPONSE_TIME)])) _
    refine XS.ifnullNo X14.here hx rfl (hb hby d8_24) rfl ?_
    show Steps p.tables e below (T14.setTop (mkF m 27 #[.val (.ref u_QosMeasure_RESPONSE_TIME), .val (.ref b1_1), .val (.int (3 : Int32)), .val (.int (1 : Int32)), .val (.ref u_Objective_RESPONSE_TIME)] [])) _
    refine XS.aload X14.here hx rfl (hb hby d8_27) rfl rfl ?_
    show Steps p.tables e below (T14.setTop (mkF m 29 #[.val (.ref u_QosMeasure_RESPONSE_TIME), .val (.ref b1_1), .val (.int (3 : Int32)), .val (.int (1 : Int32)), .val (.ref u_Objective_RESPONSE_TIME)] [(.ref u_Objective_RESPONSE_TIME)])) _
    refine st15 _ ?_
    show Steps p.tables e below (T15.setTop (mkF m 32 #[.val (.ref u_QosMeasure_RESPONSE_TIME), .val (.ref b1_1), .val (.int (3 : Int32)), .val (.int (1 : Int32)), .val (.ref u_Objective_RESPONSE_TIME)] [(.ref u_QosMeasure_RESPONSE_TIME)])) _
    refine XS.aloadN X15.here hx rfl (hb hby d8_32) rfl rfl ?_
    show Steps p.tables e below (T15.setTop (mkF m 33 #[.val (.ref u_QosMeasure_RESPONSE_TIME), .val (.ref b1_1), .val (.int (3 : Int32)), .val (.int (1 : Int32)), .val (.ref u_Objective_RESPONSE_TIME)] [(.ref u_QosMeasure_RESPONSE_TIME), (.ref u_QosMeasure_RESPONSE_TIME)])) _
    refine Jvm.RoadKit.acmp (g := (mkF m 33 #[.val (.ref u_QosMeasure_RESPONSE_TIME), .val (.ref b1_1), .val (.int (3 : Int32)), .val (.int (1 : Int32)), .val (.ref u_Objective_RESPONSE_TIME)] [(.ref u_QosMeasure_RESPONSE_TIME), (.ref u_QosMeasure_RESPONSE_TIME)])) X15 hx rfl rfl rfl (pc0 := 33) (pc' := 36) (same := true) rfl (hb hby d8_33) rfl (decide_eq_true rfl) (by decide) (by decide) ?_
    show Steps p.tables e below (T15.setTop (mkF m 36 #[.val (.ref u_QosMeasure_RESPONSE_TIME), .val (.ref b1_1), .val (.int (3 : Int32)), .val (.int (1 : Int32)), .val (.ref u_Objective_RESPONSE_TIME)] [])) _
    refine XS.aload X15.here hx rfl (hb hby d8_36) rfl rfl ?_
    show Steps p.tables e below (T15.setTop (mkF m 38 #[.val (.ref u_QosMeasure_RESPONSE_TIME), .val (.ref b1_1), .val (.int (3 : Int32)), .val (.int (1 : Int32)), .val (.ref u_Objective_RESPONSE_TIME)] [(.ref u_Objective_RESPONSE_TIME)])) _
    refine st16 _ ?_
    exact k
  obtain ⟨fs, hr, hrun, hended, hW, hsame⟩ := X16.leave (v := some (.ref b4_16)) (fun h => by rw [Bd.returns] at h; cases h)
  refine ⟨_, _, k28 _ ?_, hrun, hended, _, _, rfl, ?_, ⟨_, rfl⟩, hW, hsame.mono (by decide) (by decide)⟩
  · exact retOut X16 hx Bd.returns rfl (Or.inr (Or.inr (Or.inr (Or.inr ⟨rfl, rfl, rfl⟩)))) (hb hby d8_41) hr
  · show Q8 Z u_QosMeasure_RESPONSE_TIME u_Objective__VALUES u_Objective_SERVICES u_Objective_RESPONSE_TIME u_Objective_THROUGHPUT kk h0 n0 _ T16.heap _
    exact ⟨b4_16, rfl, N16, K16, ggb4_16, szzb4_16, G16_0, G16_1⟩
theorem d9_0 : decode prog_17_method_6_code 0 = .ok (.invokestatic 46, 3) := by decide +kernel
theorem d9_3 : decode prog_17_method_6_code 3 = .ok (.astore_n 1, 1) := by decide +kernel
theorem d9_4 : decode prog_17_method_6_code 4 = .ok (.aload_n 1, 1) := by decide +kernel
theorem d9_5 : decode prog_17_method_6_code 5 = .ok (.arraylength, 1) := by decide +kernel
theorem d9_6 : decode prog_17_method_6_code 6 = .ok (.istore_n 2, 1) := by decide +kernel
theorem d9_7 : decode prog_17_method_6_code 7 = .ok (.iconst 0, 1) := by decide +kernel
theorem d9_8 : decode prog_17_method_6_code 8 = .ok (.istore_n 3, 1) := by decide +kernel
theorem d9_9 : decode prog_17_method_6_code 9 = .ok (.iload_n 3, 1) := by decide +kernel
theorem d9_10 : decode prog_17_method_6_code 10 = .ok (.iload_n 2, 1) := by decide +kernel
theorem d9_11 : decode prog_17_method_6_code 11 = .ok (.if_icmp .ge 37, 3) := by decide +kernel
theorem d9_14 : decode prog_17_method_6_code 14 = .ok (.aload_n 1, 1) := by decide +kernel
theorem d9_15 : decode prog_17_method_6_code 15 = .ok (.iload_n 3, 1) := by decide +kernel
theorem d9_16 : decode prog_17_method_6_code 16 = .ok (.aaload, 1) := by decide +kernel
theorem d9_17 : decode prog_17_method_6_code 17 = .ok (.astore 4, 2) := by decide +kernel
theorem d9_19 : decode prog_17_method_6_code 19 = .ok (.aload 4, 2) := by decide +kernel
theorem d9_21 : decode prog_17_method_6_code 21 = .ok (.getfield 36, 3) := by decide +kernel
theorem d9_24 : decode prog_17_method_6_code 24 = .ok (.ifnull 18, 3) := by decide +kernel
theorem d9_27 : decode prog_17_method_6_code 27 = .ok (.aload 4, 2) := by decide +kernel
theorem d9_29 : decode prog_17_method_6_code 29 = .ok (.getfield 36, 3) := by decide +kernel
theorem d9_32 : decode prog_17_method_6_code 32 = .ok (.aload_n 0, 1) := by decide +kernel
theorem d9_33 : decode prog_17_method_6_code 33 = .ok (.if_acmp .ne 9, 3) := by decide +kernel
theorem d9_36 : decode prog_17_method_6_code 36 = .ok (.aload 4, 2) := by decide +kernel
theorem d9_38 : decode prog_17_method_6_code 38 = .ok (.invokestatic 50, 3) := by decide +kernel
theorem d9_41 : decode prog_17_method_6_code 41 = .ok (.areturn, 1) := by decide +kernel
theorem d9_42 : decode prog_17_method_6_code 42 = .ok (.iinc 3 1, 3) := by decide +kernel
theorem d9_45 : decode prog_17_method_6_code 45 = .ok (.goto (-36), 3) := by decide +kernel
theorem ef_9 (m : MethodId) (u_QosMeasure_THROUGHPUT : Addr) : entryFrame m #[(.ref u_QosMeasure_THROUGHPUT)] 5 = mkF m 0 #[.val (.ref u_QosMeasure_THROUGHPUT), .unset, .unset, .unset, .unset] [] := by first | (simp [entryFrame, mkF, argsToLocals, Value.category]; done) | rfl
def Q9 (Z : State) (u_QosMeasure_THROUGHPUT : Addr) (u_Objective__VALUES : Addr) (u_Objective_SERVICES : Addr) (u_Objective_RESPONSE_TIME : Addr) (u_Objective_THROUGHPUT : Addr) (kk : ClassId) (u_QosMeasure_RESPONSE_TIME : Addr) (h0 : Heap) (n0 : Nat) (v : Option Value) (h : Heap) (L : List Loc) : Prop := ∃ b9 : Addr, v = some (.ref b9) ∧ Fr n0 L ∧ Keep h0 h [] ∧ n0 ≤ b9 ∧ h0.size ≤ b9 ∧ Exa Z h b9 "java/util/Optional" ∧ Fld Z h b9 "java/util/Optional" "value" "Ljava/lang/Object;" (.ref u_Objective_THROUGHPUT)
set_option maxRecDepth 65536 in
set_option maxHeartbeats 40000000 in
theorem rm9 (l : Launch) (Z : State) (a0 : Array Value) (hw : ∀ d ∈ tables_1, d.before a0 Z = true) (ws : List Jvm.Cond) (u_QosMeasure_THROUGHPUT : Addr) (u_Objective__VALUES : Addr) (u_Objective_SERVICES : Addr) (u_Objective_RESPONSE_TIME : Addr) (u_Objective_THROUGHPUT : Addr) (kk : ClassId) (u_QosMeasure_RESPONSE_TIME : Addr) (h0 : Heap) (n0 : Nat) (Z0 : n0 ≤ h0.size) (Sv : Sta Z h0 "com/example/leanweave/leanweave/Objective" "$VALUES" "[Lcom/example/leanweave/leanweave/Objective;" (.ref u_Objective__VALUES)) (Vv : Arv Z h0 u_Objective__VALUES kk (.object "com/example/leanweave/leanweave/Objective") (3 : Int32) [(.ref u_Objective_SERVICES), (.ref u_Objective_RESPONSE_TIME), (.ref u_Objective_THROUGHPUT)] .null) (Ev : Exa Z h0 u_Objective__VALUES "[Lcom/example/leanweave/leanweave/Objective;") (FmS : Fld Z h0 u_Objective_SERVICES "com/example/leanweave/leanweave/Objective" "measure" "Lcom/example/leanweave/leanweave/QosMeasure;" .null) (FmR : Fld Z h0 u_Objective_RESPONSE_TIME "com/example/leanweave/leanweave/Objective" "measure" "Lcom/example/leanweave/leanweave/QosMeasure;" (.ref u_QosMeasure_RESPONSE_TIME)) (FmT : Fld Z h0 u_Objective_THROUGHPUT "com/example/leanweave/leanweave/Objective" "measure" "Lcom/example/leanweave/leanweave/QosMeasure;" (.ref u_QosMeasure_THROUGHPUT)) (hne1 : u_QosMeasure_RESPONSE_TIME ≠ u_QosMeasure_THROUGHPUT) :
    MetFree l (⟨"com/example/leanweave/leanweave/Objective", "seeking", "(Lcom/example/leanweave/leanweave/QosMeasure;)Ljava/util/Optional;"⟩ : MethodName) (head1 (Jvm.Cond.code (⟨"com/example/leanweave/leanweave/Objective", "seeking", "(Lcom/example/leanweave/leanweave/QosMeasure;)Ljava/util/Optional;"⟩ : MethodName) prog_17_method_6_code 5 (some (.object "java/util/Optional")) :: ws) ({ frames := 3, cells := 2, slots := 4, locals := 38 } : Room)) (fun a U => a = #[(.ref u_QosMeasure_THROUGHPUT)] ∧ Z.Warmed39 U.vm ∧ U.heap = h0) (fun _ _ _ _ _ => True) (fun _ U o U' => ∃ v L, o = .returned v ∧ Q9 Z u_QosMeasure_THROUGHPUT u_Objective__VALUES u_Objective_SERVICES u_Objective_RESPONSE_TIME u_Objective_THROUGHPUT kk u_QosMeasure_RESPONSE_TIME h0 n0 v U'.heap L ∧ FrameEnd U o U' L ({ frames := 3, cells := 2, slots := 4, locals := 38 } : Room).cells ({ frames := 3, cells := 2, slots := 4, locals := 38 } : Room).slots) := by
  refine MetFree.of_bodySF (plainFor_of_name pn_0) hisR ?_
  intro p e s m args below meth c s₁ Bd hml0 hP hK
  obtain ⟨rfl, hZ, hh⟩ := hP
  have hx := Bd.exec
  have hby := Bd.bytes
  have hml : c.maxLocals = 5 := hml0
  have hown : s.vm.findClass "com/example/leanweave/leanweave/Objective" = some m.cls := findClass_of_methodNamed Bd.named
  have hnm := (name_of_methodNamed Bd.named Bd.method).1
  have X0 : Stand p l e ({ frames := 3, cells := 2, slots := 4, locals := 38 } : Room) s m #[(.ref u_QosMeasure_THROUGHPUT)] below meth c s₁ [] 0 0 := Stand.of_body Bd
  have e0 : s₁.heap = h0 := by rw [← hh, Bd.state]; rfl
  have N0 := Fr.nil n0
  have pre0 : ∀ t, Steps p.tables e below (s₁.setTop (mkF m 0 #[.val (.ref u_QosMeasure_THROUGHPUT), .unset, .unset, .unset, .unset] [])) t → Steps p.tables e below (s₁.setTop (entryFrame m #[(.ref u_QosMeasure_THROUGHPUT)] 5)) t := fun t k => castTop (ef_9 m u_QosMeasure_THROUGHPUT) k
  obtain ⟨_, _, ⟨T1, L1, k1, n1⟩, -, X1, ⟨Lc1, hQ1, l1, y1, z1⟩, st1⟩ := Jvm.LawKit.callS X0 hx (y := (⟨"com/example/leanweave/leanweave/Objective", "values", "()[Lcom/example/leanweave/leanweave/Objective;"⟩ : MethodName)) hown (mvT hZ (hw _ (List.mem_of_getElem? (i := 10) rfl))) (mvT hZ (hw _ (List.mem_of_getElem? (i := 11) rfl))) (mvT hZ (hw _ (List.mem_of_getElem? (i := 5) rfl))) (mvT hZ (hw _ (List.mem_of_getElem? (i := 12) rfl))) (by decide) (backOf (W := 0) (rm1 l Z a0 hw [] u_Objective__VALUES u_Objective_SERVICES u_Objective_RESPONSE_TIME u_Objective_THROUGHPUT kk h0 n0 Z0 Sv Vv Ev) hZ (hw _ (List.mem_of_getElem? (i := 12) rfl)) (hw _ (List.mem_of_getElem? (i := 5) rfl)) (by decide) (by decide)) (g := (mkF m 0 #[.val (.ref u_QosMeasure_THROUGHPUT), .unset, .unset, .unset, .unset] [])) rfl (by rw [hml]; rfl) (argsL := []) (rest := []) (lenOf pd_2 rfl) rfl (by show 2 * 0 + _ ≤ _; exact Nat.le_of_eq rfl) (hb hby d9_0) (fun _ _ => ⟨rfl, e0, (by decide : 0 + 1 ≤ _), (by decide : 0 + 3 ≤ _)⟩)
  dsimp only [Pt.U, Pt.locs, Pt.cells, Pt.slots] at X1 l1 y1 z1 st1 hQ1
  subst l1 y1 z1
  obtain ⟨b1_1, rfl, N1q, Kc1, ggb1_1, szb1_1, G1_0, G1_1⟩ := hQ1
  have ne2 : u_Objective__VALUES ≠ b1_1 := Nat.ne_of_lt (Nat.lt_of_lt_of_le Vv.lt szb1_1)
  have ne3 : u_Objective_SERVICES ≠ b1_1 := Nat.ne_of_lt (Nat.lt_of_lt_of_le FmS.lt szb1_1)
  have ne4 : u_Objective_RESPONSE_TIME ≠ b1_1 := Nat.ne_of_lt (Nat.lt_of_lt_of_le FmR.lt szb1_1)
  have ne5 : u_Objective_THROUGHPUT ≠ b1_1 := Nat.ne_of_lt (Nat.lt_of_lt_of_le FmT.lt szb1_1)
  have szzb1_1 : h0.size ≤ b1_1 := Nat.le_trans (Keep.refl h0 []).1 szb1_1
  have Zs1 : n0 ≤ T1.heap.size := Nat.le_trans Z0 Kc1.1
  have K1 : Keep h0 T1.heap [] := (Keep.refl h0 []).trans Kc1 all0
  have F6 : Sta Z T1.heap "com/example/leanweave/leanweave/Objective" "$VALUES" "[Lcom/example/leanweave/leanweave/Objective;" (.ref u_Objective__VALUES) := own_stakeep Sv Kc1 all0
  have F7 : Arv Z T1.heap u_Objective__VALUES kk (.object "com/example/leanweave/leanweave/Objective") (3 : Int32) [(.ref u_Objective_SERVICES), (.ref u_Objective_RESPONSE_TIME), (.ref u_Objective_THROUGHPUT)] .null := Vv.keep Kc1 nin0
  have F8 : Exa Z T1.heap u_Objective__VALUES "[Lcom/example/leanweave/leanweave/Objective;" := Ev.keep Kc1
  have F9 : Fld Z T1.heap u_Objective_SERVICES "com/example/leanweave/leanweave/Objective" "measure" "Lcom/example/leanweave/leanweave/QosMeasure;" .null := FmS.keep Kc1 nin0
  have F10 : Fld Z T1.heap u_Objective_RESPONSE_TIME "com/example/leanweave/leanweave/Objective" "measure" "Lcom/example/leanweave/leanweave/QosMeasure;" (.ref u_QosMeasure_RESPONSE_TIME) := FmR.keep Kc1 nin0
  have F11 : Fld Z T1.heap u_Objective_THROUGHPUT "com/example/leanweave/leanweave/Objective" "measure" "Lcom/example/leanweave/leanweave/QosMeasure;" (.ref u_QosMeasure_THROUGHPUT) := FmT.keep Kc1 nin0
  have N1 := Fr.app N0 N1q
  obtain ⟨cl12, Ar12, qc12, Sz12, Nn12, Hh12, Gg12⟩ := (id G1_0)
  obtain ⟨cl13, Ar13, qc13, Sz13, Nn13, Hh13, Gg13⟩ := (id G1_0)
  have hin13 : ¬ ((0 : Int32) < 0 ∨ cl13.slots.size ≤ ((0 : Int32)).toNatClampNeg) := inb_of Sz13 ⟨by decide, by decide⟩
  obtain ⟨T14, X14, e14, st14⟩ := getF X1 hx hZ hown (host := "") (Or.inl (hw _ (List.mem_of_getElem? (i := 27) rfl))) Via.refl rfl F9 (g := (mkF m 21 #[.val (.ref u_QosMeasure_THROUGHPUT), .val (.ref b1_1), .val (.int (3 : Int32)), .val (.int (0 : Int32)), .val (.ref u_Objective_SERVICES)] [(.ref u_Objective_SERVICES)])) rfl rfl (hb hby d9_21)
  obtain ⟨cl15, Ar15, qc15, Sz15, Nn15, Hh15, Gg15⟩ := (id G1_0)
  have hin15 : ¬ ((1 : Int32) < 0 ∨ cl15.slots.size ≤ ((1 : Int32)).toNatClampNeg) := inb_of Sz15 ⟨by decide, by decide⟩
  obtain ⟨T16, X16, e16, st16⟩ := getF X14 hx hZ hown (host := "") (Or.inl (hw _ (List.mem_of_getElem? (i := 27) rfl))) Via.refl e14 F10 (g := (mkF m 21 #[.val (.ref u_QosMeasure_THROUGHPUT), .val (.ref b1_1), .val (.int (3 : Int32)), .val (.int (1 : Int32)), .val (.ref u_Objective_RESPONSE_TIME)] [(.ref u_Objective_RESPONSE_TIME)])) rfl rfl (hb hby d9_21)
  obtain ⟨T17, X17, e17, st17⟩ := getF X16 hx hZ hown (host := "") (Or.inl (hw _ (List.mem_of_getElem? (i := 27) rfl))) Via.refl e16 F10 (g := (mkF m 29 #[.val (.ref u_QosMeasure_THROUGHPUT), .val (.ref b1_1), .val (.int (3 : Int32)), .val (.int (1 : Int32)), .val (.ref u_Objective_RESPONSE_TIME)] [(.ref u_Objective_RESPONSE_TIME)])) rfl rfl (hb hby d9_29)
  obtain ⟨cl18, Ar18, qc18, Sz18, Nn18, Hh18, Gg18⟩ := (id G1_0)
  have hin18 : ¬ ((2 : Int32) < 0 ∨ cl18.slots.size ≤ ((2 : Int32)).toNatClampNeg) := inb_of Sz18 ⟨by decide, by decide⟩
  obtain ⟨T19, X19, e19, st19⟩ := getF X17 hx hZ hown (host := "") (Or.inl (hw _ (List.mem_of_getElem? (i := 27) rfl))) Via.refl e17 F11 (g := (mkF m 21 #[.val (.ref u_QosMeasure_THROUGHPUT), .val (.ref b1_1), .val (.int (3 : Int32)), .val (.int (2 : Int32)), .val (.ref u_Objective_THROUGHPUT)] [(.ref u_Objective_THROUGHPUT)])) rfl rfl (hb hby d9_21)
  obtain ⟨T20, X20, e20, st20⟩ := getF X19 hx hZ hown (host := "") (Or.inl (hw _ (List.mem_of_getElem? (i := 27) rfl))) Via.refl e19 F11 (g := (mkF m 29 #[.val (.ref u_QosMeasure_THROUGHPUT), .val (.ref b1_1), .val (.int (3 : Int32)), .val (.int (2 : Int32)), .val (.ref u_Objective_THROUGHPUT)] [(.ref u_Objective_THROUGHPUT)])) rfl rfl (hb hby d9_29)
  obtain ⟨_, _, ⟨T21, L21, k21, n21⟩, -, X21, ⟨Lc21, hQ21, l21, y21, z21⟩, st21⟩ := Jvm.LawKit.callS X20 hx (y := (⟨"java/util/Optional", "of", "(Ljava/lang/Object;)Ljava/util/Optional;"⟩ : MethodName)) hown (mvT hZ (hw _ (List.mem_of_getElem? (i := 29) rfl))) (mvT hZ (hw _ (List.mem_of_getElem? (i := 30) rfl))) (mvT hZ (hw _ (List.mem_of_getElem? (i := 31) rfl))) (mvT hZ (hw _ (List.mem_of_getElem? (i := 32) rfl))) (by decide) (backOf (W := 0) (rm4 l Z a0 hw [] u_Objective_THROUGHPUT T1.heap n0 Zs1 ) hZ (hw _ (List.mem_of_getElem? (i := 32) rfl)) (hw _ (List.mem_of_getElem? (i := 31) rfl)) (by decide) (by decide)) (g := (mkF m 38 #[.val (.ref u_QosMeasure_THROUGHPUT), .val (.ref b1_1), .val (.int (3 : Int32)), .val (.int (2 : Int32)), .val (.ref u_Objective_THROUGHPUT)] [(.ref u_Objective_THROUGHPUT)])) rfl (by rw [hml]; rfl) (argsL := [(.ref u_Objective_THROUGHPUT)]) (rest := []) (lenOf pd_3 rfl) rfl (by show 2 * 0 + _ ≤ _; exact Nat.le_of_eq rfl) (hb hby d9_38) (fun _ _ => ⟨rfl, e20, (by decide : 1 + 1 ≤ _), (by decide : 3 + 1 ≤ _)⟩)
  dsimp only [Pt.U, Pt.locs, Pt.cells, Pt.slots] at X21 l21 y21 z21 st21 hQ21
  subst l21 y21 z21
  obtain ⟨b4_21, rfl, N21q, Kc21, ggb4_21, szb4_21, G21_0, G21_1⟩ := hQ21
  have ne22 : u_Objective__VALUES ≠ b4_21 := Nat.ne_of_lt (Nat.lt_of_lt_of_le F7.lt szb4_21)
  have ne23 : u_Objective_SERVICES ≠ b4_21 := Nat.ne_of_lt (Nat.lt_of_lt_of_le F9.lt szb4_21)
  have ne24 : u_Objective_RESPONSE_TIME ≠ b4_21 := Nat.ne_of_lt (Nat.lt_of_lt_of_le F10.lt szb4_21)
  have ne25 : u_Objective_THROUGHPUT ≠ b4_21 := Nat.ne_of_lt (Nat.lt_of_lt_of_le F11.lt szb4_21)
  have ne26 : b1_1 ≠ b4_21 := Nat.ne_of_lt (Nat.lt_of_lt_of_le G1_0.lt szb4_21)
  have szzb4_21 : h0.size ≤ b4_21 := Nat.le_trans K1.1 szb4_21
  have Zs21 : n0 ≤ T21.heap.size := Nat.le_trans Zs1 Kc21.1
  have K21 : Keep h0 T21.heap [] := K1.trans Kc21 all0
  have F27 : Sta Z T21.heap "com/example/leanweave/leanweave/Objective" "$VALUES" "[Lcom/example/leanweave/leanweave/Objective;" (.ref u_Objective__VALUES) := own_stakeep F6 Kc21 all0
  have F28 : Arv Z T21.heap u_Objective__VALUES kk (.object "com/example/leanweave/leanweave/Objective") (3 : Int32) [(.ref u_Objective_SERVICES), (.ref u_Objective_RESPONSE_TIME), (.ref u_Objective_THROUGHPUT)] .null := F7.keep Kc21 nin0
  have F29 : Exa Z T21.heap u_Objective__VALUES "[Lcom/example/leanweave/leanweave/Objective;" := F8.keep Kc21
  have F30 : Fld Z T21.heap u_Objective_SERVICES "com/example/leanweave/leanweave/Objective" "measure" "Lcom/example/leanweave/leanweave/QosMeasure;" .null := F9.keep Kc21 nin0
  have F31 : Fld Z T21.heap u_Objective_RESPONSE_TIME "com/example/leanweave/leanweave/Objective" "measure" "Lcom/example/leanweave/leanweave/QosMeasure;" (.ref u_QosMeasure_RESPONSE_TIME) := F10.keep Kc21 nin0
  have F32 : Fld Z T21.heap u_Objective_THROUGHPUT "com/example/leanweave/leanweave/Objective" "measure" "Lcom/example/leanweave/leanweave/QosMeasure;" (.ref u_QosMeasure_THROUGHPUT) := F11.keep Kc21 nin0
  have F33 : Arv Z T21.heap b1_1 kk (.object "com/example/leanweave/leanweave/Objective") (3 : Int32) [(.ref u_Objective_SERVICES), (.ref u_Objective_RESPONSE_TIME), (.ref u_Objective_THROUGHPUT)] .null := G1_0.keep Kc21 nin0
  have F34 : Exa Z T21.heap b1_1 "[Lcom/example/leanweave/leanweave/Objective;" := G1_1.keep Kc21
  have N21 := Fr.app N1 N21q
  have k35 : ∀ t, Steps p.tables e below (T21.setTop (mkF m 41 #[.val (.ref u_QosMeasure_THROUGHPUT), .val (.ref b1_1), .val (.int (3 : Int32)), .val (.int (2 : Int32)), .val (.ref u_Objective_THROUGHPUT)] [(.ref b4_21)])) t → Steps p.tables e below (s₁.setTop (entryFrame m #[(.ref u_QosMeasure_THROUGHPUT)] 5)) t := by
    intro t k
    refine pre0 t ?_
    show Steps p.tables e below (s₁.setTop (mkF m 0 #[.val (.ref u_QosMeasure_THROUGHPUT), .unset, .unset, .unset, .unset] [])) _
    refine st1 _ ?_
    show Steps p.tables e below (T1.setTop (mkF m 3 #[.val (.ref u_QosMeasure_THROUGHPUT), .unset, .unset, .unset, .unset] [(.ref b1_1)])) _
    refine XS.astoreN X1.here hx rfl (hb hby d9_3) rfl rfl (l' := #[.val (.ref u_QosMeasure_THROUGHPUT), .val (.ref b1_1), .unset, .unset, .unset]) rfl ?_
    show Steps p.tables e below (T1.setTop (mkF m 4 #[.val (.ref u_QosMeasure_THROUGHPUT), .val (.ref b1_1), .unset, .unset, .unset] [])) _
    refine XS.aloadN X1.here hx rfl (hb hby d9_4) rfl rfl ?_
    show Steps p.tables e below (T1.setTop (mkF m 5 #[.val (.ref u_QosMeasure_THROUGHPUT), .val (.ref b1_1), .unset, .unset, .unset] [(.ref b1_1)])) _
    refine X1.arraylength hx Ar12.1 (State.isArrayOf_alike hZ.alike Ar12.2.1) (g := (mkF m 5 #[.val (.ref u_QosMeasure_THROUGHPUT), .val (.ref b1_1), .unset, .unset, .unset] [(.ref b1_1)])) rfl rfl (hb hby d9_5) _ ?_
    rw [len_of Sz12 Nn12]
    show Steps p.tables e below (T1.setTop (mkF m 6 #[.val (.ref u_QosMeasure_THROUGHPUT), .val (.ref b1_1), .unset, .unset, .unset] [(.int (3 : Int32))])) _
    refine XS.istoreN X1.here hx rfl (hb hby d9_6) rfl (l' := #[.val (.ref u_QosMeasure_THROUGHPUT), .val (.ref b1_1), .val (.int (3 : Int32)), .unset, .unset]) rfl ?_
    show Steps p.tables e below (T1.setTop (mkF m 7 #[.val (.ref u_QosMeasure_THROUGHPUT), .val (.ref b1_1), .val (.int (3 : Int32)), .unset, .unset] [])) _
    refine XS.iconst X1.here hx rfl (hb hby d9_7) ?_
    show Steps p.tables e below (T1.setTop (mkF m 8 #[.val (.ref u_QosMeasure_THROUGHPUT), .val (.ref b1_1), .val (.int (3 : Int32)), .unset, .unset] [(.int (0 : Int32))])) _
    refine XS.istoreN X1.here hx rfl (hb hby d9_8) rfl (l' := #[.val (.ref u_QosMeasure_THROUGHPUT), .val (.ref b1_1), .val (.int (3 : Int32)), .val (.int (0 : Int32)), .unset]) rfl ?_
    show Steps p.tables e below (T1.setTop (mkF m 9 #[.val (.ref u_QosMeasure_THROUGHPUT), .val (.ref b1_1), .val (.int (3 : Int32)), .val (.int (0 : Int32)), .unset] [])) _
    refine XS.iloadN X1.here hx rfl (hb hby d9_9) rfl ?_
    show Steps p.tables e below (T1.setTop (mkF m 10 #[.val (.ref u_QosMeasure_THROUGHPUT), .val (.ref b1_1), .val (.int (3 : Int32)), .val (.int (0 : Int32)), .unset] [(.int (0 : Int32))])) _
    refine XS.iloadN X1.here hx rfl (hb hby d9_10) rfl ?_
    show Steps p.tables e below (T1.setTop (mkF m 11 #[.val (.ref u_QosMeasure_THROUGHPUT), .val (.ref b1_1), .val (.int (3 : Int32)), .val (.int (0 : Int32)), .unset] [(.int (3 : Int32)), (.int (0 : Int32))])) _
    refine XS.icmpNo X1.here hx rfl (hb hby d9_11) rfl (tlt (by decide : (0 : Int32) < (3 : Int32))).2.1 ?_
    show Steps p.tables e below (T1.setTop (mkF m 14 #[.val (.ref u_QosMeasure_THROUGHPUT), .val (.ref b1_1), .val (.int (3 : Int32)), .val (.int (0 : Int32)), .unset] [])) _
    refine XS.aloadN X1.here hx rfl (hb hby d9_14) rfl rfl ?_
    show Steps p.tables e below (T1.setTop (mkF m 15 #[.val (.ref u_QosMeasure_THROUGHPUT), .val (.ref b1_1), .val (.int (3 : Int32)), .val (.int (0 : Int32)), .unset] [(.ref b1_1)])) _
    refine XS.iloadN X1.here hx rfl (hb hby d9_15) rfl ?_
    show Steps p.tables e below (T1.setTop (mkF m 16 #[.val (.ref u_QosMeasure_THROUGHPUT), .val (.ref b1_1), .val (.int (3 : Int32)), .val (.int (0 : Int32)), .unset] [(.int (0 : Int32)), (.ref b1_1)])) _
    refine X1.aaload hx (j := (0 : Int32)) (v := (.ref u_Objective_SERVICES)) Ar13.1 (State.isArrayOf_alike hZ.alike Ar13.2.1) rfl Ar13.2.2 hin13 (Hh13.at hin13 rfl) (g := (mkF m 16 #[.val (.ref u_QosMeasure_THROUGHPUT), .val (.ref b1_1), .val (.int (3 : Int32)), .val (.int (0 : Int32)), .unset] [(.int (0 : Int32)), (.ref b1_1)])) rfl rfl (hb hby d9_16) _ ?_
    show Steps p.tables e below (T1.setTop (mkF m 17 #[.val (.ref u_QosMeasure_THROUGHPUT), .val (.ref b1_1), .val (.int (3 : Int32)), .val (.int (0 : Int32)), .unset] [(.ref u_Objective_SERVICES)])) _
    refine XS.astore X1.here hx rfl (hb hby d9_17) rfl rfl (l' := #[.val (.ref u_QosMeasure_THROUGHPUT), .val (.ref b1_1), .val (.int (3 : Int32)), .val (.int (0 : Int32)), .val (.ref u_Objective_SERVICES)]) rfl ?_
    show Steps p.tables e below (T1.setTop (mkF m 19 #[.val (.ref u_QosMeasure_THROUGHPUT), .val (.ref b1_1), .val (.int (3 : Int32)), .val (.int (0 : Int32)), .val (.ref u_Objective_SERVICES)] [])) _
    refine XS.aload X1.here hx rfl (hb hby d9_19) rfl rfl ?_
    show Steps p.tables e below (T1.setTop (mkF m 21 #[.val (.ref u_QosMeasure_THROUGHPUT), .val (.ref b1_1), .val (.int (3 : Int32)), .val (.int (0 : Int32)), .val (.ref u_Objective_SERVICES)] [(.ref u_Objective_SERVICES)])) _
    refine st14 _ ?_
    show Steps p.tables e below (T14.setTop (mkF m 24 #[.val (.ref u_QosMeasure_THROUGHPUT), .val (.ref b1_1), .val (.int (3 : Int32)), .val (.int (0 : Int32)), .val (.ref u_Objective_SERVICES)] [.null])) _
    refine XS.ifnullYes X14.here hx rfl (pc0 := 24) (pc' := 42) rfl (hb hby d9_24) rfl (by decide) (by decide) ?_
    show Steps p.tables e below (T14.setTop (mkF m 42 #[.val (.ref u_QosMeasure_THROUGHPUT), .val (.ref b1_1), .val (.int (3 : Int32)), .val (.int (0 : Int32)), .val (.ref u_Objective_SERVICES)] [])) _
    refine XS.iinc X14.here hx rfl (hb hby d9_42) rfl (l' := #[.val (.ref u_QosMeasure_THROUGHPUT), .val (.ref b1_1), .val (.int (3 : Int32)), .val (.int (1 : Int32)), .val (.ref u_Objective_SERVICES)]) rfl ?_
    show Steps p.tables e below (T14.setTop (mkF m 45 #[.val (.ref u_QosMeasure_THROUGHPUT), .val (.ref b1_1), .val (.int (3 : Int32)), .val (.int (1 : Int32)), .val (.ref u_Objective_SERVICES)] [])) _
    refine XS.goto X14.here hx rfl (pc0 := 45) (pc' := 9) rfl (hb hby d9_45) (by decide) (by decide) ?_
    show Steps p.tables e below (T14.setTop (mkF m 9 #[.val (.ref u_QosMeasure_THROUGHPUT), .val (.ref b1_1), .val (.int (3 : Int32)), .val (.int (1 : Int32)), .val (.ref u_Objective_SERVICES)] [])) _
    refine XS.iloadN X14.here hx rfl (hb hby d9_9) rfl ?_
    show Steps p.tables e below (T14.setTop (mkF m 10 #[.val (.ref u_QosMeasure_THROUGHPUT), .val (.ref b1_1), .val (.int (3 : Int32)), .val (.int (1 : Int32)), .val (.ref u_Objective_SERVICES)] [(.int (1 : Int32))])) _
    refine XS.iloadN X14.here hx rfl (hb hby d9_10) rfl ?_
    show Steps p.tables e below (T14.setTop (mkF m 11 #[.val (.ref u_QosMeasure_THROUGHPUT), .val (.ref b1_1), .val (.int (3 : Int32)), .val (.int (1 : Int32)), .val (.ref u_Objective_SERVICES)] [(.int (3 : Int32)), (.int (1 : Int32))])) _
    refine XS.icmpNo X14.here hx rfl (hb hby d9_11) rfl (tlt (by decide : (1 : Int32) < (3 : Int32))).2.1 ?_
    show Steps p.tables e below (T14.setTop (mkF m 14 #[.val (.ref u_QosMeasure_THROUGHPUT), .val (.ref b1_1), .val (.int (3 : Int32)), .val (.int (1 : Int32)), .val (.ref u_Objective_SERVICES)] [])) _
    refine XS.aloadN X14.here hx rfl (hb hby d9_14) rfl rfl ?_
    show Steps p.tables e below (T14.setTop (mkF m 15 #[.val (.ref u_QosMeasure_THROUGHPUT), .val (.ref b1_1), .val (.int (3 : Int32)), .val (.int (1 : Int32)), .val (.ref u_Objective_SERVICES)] [(.ref b1_1)])) _
    refine XS.iloadN X14.here hx rfl (hb hby d9_15) rfl ?_
    show Steps p.tables e below (T14.setTop (mkF m 16 #[.val (.ref u_QosMeasure_THROUGHPUT), .val (.ref b1_1), .val (.int (3 : Int32)), .val (.int (1 : Int32)), .val (.ref u_Objective_SERVICES)] [(.int (1 : Int32)), (.ref b1_1)])) _
    refine X14.aaload hx (j := (1 : Int32)) (v := (.ref u_Objective_RESPONSE_TIME)) (by rw [e14]; exact Ar15.1) (State.isArrayOf_alike hZ.alike Ar15.2.1) rfl Ar15.2.2 hin15 (Hh15.at hin15 rfl) (g := (mkF m 16 #[.val (.ref u_QosMeasure_THROUGHPUT), .val (.ref b1_1), .val (.int (3 : Int32)), .val (.int (1 : Int32)), .val (.ref u_Objective_SERVICES)] [(.int (1 : Int32)), (.ref b1_1)])) rfl rfl (hb hby d9_16) _ ?_
    show Steps p.tables e below (T14.setTop (mkF m 17 #[.val (.ref u_QosMeasure_THROUGHPUT), .val (.ref b1_1), .val (.int (3 : Int32)), .val (.int (1 : Int32)), .val (.ref u_Objective_SERVICES)] [(.ref u_Objective_RESPONSE_TIME)])) _
    refine XS.astore X14.here hx rfl (hb hby d9_17) rfl rfl (l' := #[.val (.ref u_QosMeasure_THROUGHPUT), .val (.ref b1_1), .val (.int (3 : Int32)), .val (.int (1 : Int32)), .val (.ref u_Objective_RESPONSE_TIME)]) rfl ?_
    show Steps p.tables e below (T14.setTop (mkF m 19 #[.val (.ref u_QosMeasure_THROUGHPUT), .val (.ref b1_1), .val (.int (3 : Int32)), .val (.int (1 : Int32)), .val (.ref u_Objective_RESPONSE_TIME)] [])) _
    refine XS.aload X14.here hx rfl (hb hby d9_19) rfl rfl ?_
    show Steps p.tables e below (T14.setTop (mkF m 21 #[.val (.ref u_QosMeasure_THROUGHPUT), .val (.ref b1_1), .val (.int (3 : Int32)), .val (.int (1 : Int32)), .val (.ref u_Objective_RESPONSE_TIME)] [(.ref u_Objective_RESPONSE_TIME)])) _
    refine st16 _ ?_
    show Steps p.tables e below (T16.setTop (mkF m 24 #[.val (.ref u_QosMeasure_THROUGHPUT), .val (.ref b1_1), .val (.int (3 : Int32)), .val (.int (1 : Int32)), .val (.ref u_Objective_RESPONSE_TIME)] [(.ref u_QosMeasure_RESPONSE_TIME)])) _
    refine XS.ifnullNo X16.here hx rfl (hb hby d9_24) rfl ?_
    show Steps p.tables e below (T16.setTop (mkF m 27 #[.val (.ref u_QosMeasure_THROUGHPUT), .val (.ref b1_1), .val (.int (3 : Int32)), .val (.int (1 : Int32)), .val (.ref u_Objective_RESPONSE_TIME)] [])) _
    refine XS.aload X16.here hx rfl (hb hby d9_27) rfl rfl ?_
    show Steps p.tables e below (T16.setTop (mkF m 29 #[.val (.ref u_QosMeasure_THROUGHPUT), .val (.ref b1_1), .val (.int (3 : Int32)), .val (.int (1 : Int32)), .val (.ref u_Objective_RESPONSE_TIME)] [(.ref u_Objective_RESPONSE_TIME)])) _
    refine st17 _ ?_
    show Steps p.tables e below (T17.setTop (mkF m 32 #[.val (.ref u_QosMeasure_THROUGHPUT), .val (.ref b1_1), .val (.int (3 : Int32)), .val (.int (1 : Int32)), .val (.ref u_Objective_RESPONSE_TIME)] [(.ref u_QosMeasure_RESPONSE_TIME)])) _
    refine XS.aloadN X17.here hx rfl (hb hby d9_32) rfl rfl ?_
    show Steps p.tables e below (T17.setTop (mkF m 33 #[.val (.ref u_QosMeasure_THROUGHPUT), .val (.ref b1_1), .val (.int (3 : Int32)), .val (.int (1 : Int32)), .val (.ref u_Objective_RESPONSE_TIME)] [(.ref u_QosMeasure_THROUGHPUT), (.ref u_QosMeasure_RESPONSE_TIME)])) _
    refine Jvm.RoadKit.acmp (g := (mkF m 33 #[.val (.ref u_QosMeasure_THROUGHPUT), .val (.ref b1_1), .val (.int (3 : Int32)), .val (.int (1 : Int32)), .val (.ref u_Objective_RESPONSE_TIME)] [(.ref u_QosMeasure_THROUGHPUT), (.ref u_QosMeasure_RESPONSE_TIME)])) X17 hx rfl rfl rfl (pc0 := 33) (pc' := 42) (same := false) rfl (hb hby d9_33) rfl (decide_eq_false fun q => hne1 (Value.ref.inj q)) (by decide) (by decide) ?_
    show Steps p.tables e below (T17.setTop (mkF m 42 #[.val (.ref u_QosMeasure_THROUGHPUT), .val (.ref b1_1), .val (.int (3 : Int32)), .val (.int (1 : Int32)), .val (.ref u_Objective_RESPONSE_TIME)] [])) _
    refine XS.iinc X17.here hx rfl (hb hby d9_42) rfl (l' := #[.val (.ref u_QosMeasure_THROUGHPUT), .val (.ref b1_1), .val (.int (3 : Int32)), .val (.int (2 : Int32)), .val (.ref u_Objective_RESPONSE_TIME)]) rfl ?_
    show Steps p.tables e below (T17.setTop (mkF m 45 #[.val (.ref u_QosMeasure_THROUGHPUT), .val (.ref b1_1), .val (.int (3 : Int32)), .val (.int (2 : Int32)), .val (.ref u_Objective_RESPONSE_TIME)] [])) _
    refine XS.goto X17.here hx rfl (pc0 := 45) (pc' := 9) rfl (hb hby d9_45) (by decide) (by decide) ?_
    show Steps p.tables e below (T17.setTop (mkF m 9 #[.val (.ref u_QosMeasure_THROUGHPUT), .val (.ref b1_1), .val (.int (3 : Int32)), .val (.int (2 : Int32)), .val (.ref u_Objective_RESPONSE_TIME)] [])) _
    refine XS.iloadN X17.here hx rfl (hb hby d9_9) rfl ?_
    show Steps p.tables e below (T17.setTop (mkF m 10 #[.val (.ref u_QosMeasure_THROUGHPUT), .val (.ref b1_1), .val (.int (3 : Int32)), .val (.int (2 : Int32)), .val (.ref u_Objective_RESPONSE_TIME)] [(.int (2 : Int32))])) _
    refine XS.iloadN X17.here hx rfl (hb hby d9_10) rfl ?_
    show Steps p.tables e below (T17.setTop (mkF m 11 #[.val (.ref u_QosMeasure_THROUGHPUT), .val (.ref b1_1), .val (.int (3 : Int32)), .val (.int (2 : Int32)), .val (.ref u_Objective_RESPONSE_TIME)] [(.int (3 : Int32)), (.int (2 : Int32))])) _
    refine XS.icmpNo X17.here hx rfl (hb hby d9_11) rfl (tlt (by decide : (2 : Int32) < (3 : Int32))).2.1 ?_
    show Steps p.tables e below (T17.setTop (mkF m 14 #[.val (.ref u_QosMeasure_THROUGHPUT), .val (.ref b1_1), .val (.int (3 : Int32)), .val (.int (2 : Int32)), .val (.ref u_Objective_RESPONSE_TIME)] [])) _
    refine XS.aloadN X17.here hx rfl (hb hby d9_14) rfl rfl ?_
    show Steps p.tables e below (T17.setTop (mkF m 15 #[.val (.ref u_QosMeasure_THROUGHPUT), .val (.ref b1_1), .val (.int (3 : Int32)), .val (.int (2 : Int32)), .val (.ref u_Objective_RESPONSE_TIME)] [(.ref b1_1)])) _
    refine XS.iloadN X17.here hx rfl (hb hby d9_15) rfl ?_
    show Steps p.tables e below (T17.setTop (mkF m 16 #[.val (.ref u_QosMeasure_THROUGHPUT), .val (.ref b1_1), .val (.int (3 : Int32)), .val (.int (2 : Int32)), .val (.ref u_Objective_RESPONSE_TIME)] [(.int (2 : Int32)), (.ref b1_1)])) _
    refine X17.aaload hx (j := (2 : Int32)) (v := (.ref u_Objective_THROUGHPUT)) (by rw [e17]; exact Ar18.1) (State.isArrayOf_alike hZ.alike Ar18.2.1) rfl Ar18.2.2 hin18 (Hh18.at hin18 rfl) (g := (mkF m 16 #[.val (.ref u_QosMeasure_THROUGHPUT), .val (.ref b1_1), .val (.int (3 : Int32)), .val (.int (2 : Int32)), .val (.ref u_Objective_RESPONSE_TIME)] [(.int (2 : Int32)), (.ref b1_1)])) rfl rfl (hb hby d9_16) _ ?_
    show Steps p.tables e below (T17.setTop (mkF m 17 #[.val (.ref u_QosMeasure_THROUGHPUT), .val (.ref b1_1), .val (.int (3 : Int32)), .val (.int (2 : Int32)), .val (.ref u_Objective_RESPONSE_TIME)] [(.ref u_Objective_THROUGHPUT)])) _
    refine XS.astore X17.here hx rfl (hb hby d9_17) rfl rfl (l' := #[.val (.ref u_QosMeasure_THROUGHPUT), .val (.ref b1_1), .val (.int (3 : Int32)), .val (.int (2 : Int32)), .val (.ref u_Objective_THROUGHPUT)]) rfl ?_
    show Steps p.tables e below (T17.setTop (mkF m 19 #[.val (.ref u_QosMeasure_THROUGHPUT), .val (.ref b1_1), .val (.int (3 : Int32)), .val (.int (2 : Int32)), .val (.ref u_Objective_THROUGHPUT)] [])) _
    refine XS.aload X17.here hx rfl (hb hby d9_19) rfl rfl ?_
    show Steps p.tables e below (T17.setTop (mkF m 21 #[.val (.ref u_QosMeasure_THROUGHPUT), .val (.ref b1_1), .val (.int (3 : Int32)), .val (.int (2 : Int32)), .val (.ref u_Objective_THROUGHPUT)] [(.ref u_Objective_THROUGHPUT)])) _
    refine st19 _ ?_
    show Steps p.tables e below (T19.setTop (mkF m 24 #[.val (.ref u_QosMeasure_THROUGHPUT), .val (.ref b1_1), .val (.int (3 : Int32)), .val (.int (2 : Int32)), .val (.ref u_Objective_THROUGHPUT)] [(.ref u_QosMeasure_THROUGHPUT)])) _
    refine XS.ifnullNo X19.here hx rfl (hb hby d9_24) rfl ?_
    show Steps p.tables e below (T19.setTop (mkF m 27 #[.val (.ref u_QosMeasure_THROUGHPUT), .val (.ref b1_1), .val (.int (3 : Int32)), .val (.int (2 : Int32)), .val (.ref u_Objective_THROUGHPUT)] [])) _
    refine XS.aload X19.here hx rfl (hb hby d9_27) rfl rfl ?_
    show Steps p.tables e below (T19.setTop (mkF m 29 #[.val (.ref u_QosMeasure_THROUGHPUT), .val (.ref b1_1), .val (.int (3 : Int32)), .val (.int (2 : Int32)), .val (.ref u_Objective_THROUGHPUT)] [(.ref u_Objective_THROUGHPUT)])) _
    refine st20 _ ?_
    show Steps p.tables e below (T20.setTop (mkF m 32 #[.val (.ref u_QosMeasure_THROUGHPUT), .val (.ref b1_1), .val (.int (3 : Int32)), .val (.int (2 : Int32)), .val (.ref u_Objective_THROUGHPUT)] [(.ref u_QosMeasure_THROUGHPUT)])) _
    refine XS.aloadN X20.here hx rfl (hb hby d9_32) rfl rfl ?_
    show Steps p.tables e below (T20.setTop (mkF m 33 #[.val (.ref u_QosMeasure_THROUGHPUT), .val (.ref b1_1), .val (.int (3 : Int32)), .val (.int (2 : Int32)), .val (.ref u_Objective_THROUGHPUT)] [(.ref u_QosMeasure_THROUGHPUT), (.ref u_QosMeasure_THROUGHPUT)])) _
    refine Jvm.RoadKit.acmp (g := (mkF m 33 #[.val (.ref u_QosMeasure_THROUGHPUT), .val (.ref b1_1), .val (.int (3 : Int32)), .val (.int (2 : Int32)), .val (.ref u_Objective_THROUGHPUT)] [(.ref u_QosMeasure_THROUGHPUT), (.ref u_QosMeasure_THROUGHPUT)])) X20 hx rfl rfl rfl (pc0 := 33) (pc' := 36) (same := true) rfl (hb hby d9_33) rfl (decide_eq_true rfl) (by decide) (by decide) ?_
    show Steps p.tables e below (T20.setTop (mkF m 36 #[.val (.ref u_QosMeasure_THROUGHPUT), .val (.ref b1_1), .val (.int (3 : Int32)), .val (.int (2 : Int32)), .val (.ref u_Objective_THROUGHPUT)] [])) _
    refine XS.aload X20.here hx rfl (hb hby d9_36) rfl rfl ?_
    show Steps p.tables e below (T20.setTop (mkF m 38 #[.val (.ref u_QosMeasure_THROUGHPUT), .val (.ref b1_1), .val (.int (3 : Int32)), .val (.int (2 : Int32)), .val (.ref u_Objective_THROUGHPUT)] [(.ref u_Objective_THROUGHPUT)])) _
    refine st21 _ ?_
    exact k
  obtain ⟨fs, hr, hrun, hended, hW, hsame⟩ := X21.leave (v := some (.ref b4_21)) (fun h => by rw [Bd.returns] at h; cases h)
  refine ⟨_, _, k35 _ ?_, hrun, hended, _, _, rfl, ?_, ⟨_, rfl⟩, hW, hsame.mono (by decide) (by decide)⟩
  · exact retOut X21 hx Bd.returns rfl (Or.inr (Or.inr (Or.inr (Or.inr ⟨rfl, rfl, rfl⟩)))) (hb hby d9_41) hr
  · show Q9 Z u_QosMeasure_THROUGHPUT u_Objective__VALUES u_Objective_SERVICES u_Objective_RESPONSE_TIME u_Objective_THROUGHPUT kk u_QosMeasure_RESPONSE_TIME h0 n0 _ T21.heap _
    exact ⟨b4_21, rfl, N21, K21, ggb4_21, szzb4_21, G21_0, G21_1⟩
theorem pd_4 : parseMethodDescriptor "()Ljava/util/Optional;" = some ⟨[], some (.object "java/util/Optional")⟩ := by decide +kernel
theorem d10_0 : decode prog_17_method_6_code 0 = .ok (.invokestatic 46, 3) := by decide +kernel
theorem d10_3 : decode prog_17_method_6_code 3 = .ok (.astore_n 1, 1) := by decide +kernel
theorem d10_4 : decode prog_17_method_6_code 4 = .ok (.aload_n 1, 1) := by decide +kernel
theorem d10_5 : decode prog_17_method_6_code 5 = .ok (.arraylength, 1) := by decide +kernel
theorem d10_6 : decode prog_17_method_6_code 6 = .ok (.istore_n 2, 1) := by decide +kernel
theorem d10_7 : decode prog_17_method_6_code 7 = .ok (.iconst 0, 1) := by decide +kernel
theorem d10_8 : decode prog_17_method_6_code 8 = .ok (.istore_n 3, 1) := by decide +kernel
theorem d10_9 : decode prog_17_method_6_code 9 = .ok (.iload_n 3, 1) := by decide +kernel
theorem d10_10 : decode prog_17_method_6_code 10 = .ok (.iload_n 2, 1) := by decide +kernel
theorem d10_11 : decode prog_17_method_6_code 11 = .ok (.if_icmp .ge 37, 3) := by decide +kernel
theorem d10_14 : decode prog_17_method_6_code 14 = .ok (.aload_n 1, 1) := by decide +kernel
theorem d10_15 : decode prog_17_method_6_code 15 = .ok (.iload_n 3, 1) := by decide +kernel
theorem d10_16 : decode prog_17_method_6_code 16 = .ok (.aaload, 1) := by decide +kernel
theorem d10_17 : decode prog_17_method_6_code 17 = .ok (.astore 4, 2) := by decide +kernel
theorem d10_19 : decode prog_17_method_6_code 19 = .ok (.aload 4, 2) := by decide +kernel
theorem d10_21 : decode prog_17_method_6_code 21 = .ok (.getfield 36, 3) := by decide +kernel
theorem d10_24 : decode prog_17_method_6_code 24 = .ok (.ifnull 18, 3) := by decide +kernel
theorem d10_27 : decode prog_17_method_6_code 27 = .ok (.aload 4, 2) := by decide +kernel
theorem d10_29 : decode prog_17_method_6_code 29 = .ok (.getfield 36, 3) := by decide +kernel
theorem d10_32 : decode prog_17_method_6_code 32 = .ok (.aload_n 0, 1) := by decide +kernel
theorem d10_33 : decode prog_17_method_6_code 33 = .ok (.if_acmp .ne 9, 3) := by decide +kernel
theorem d10_42 : decode prog_17_method_6_code 42 = .ok (.iinc 3 1, 3) := by decide +kernel
theorem d10_45 : decode prog_17_method_6_code 45 = .ok (.goto (-36), 3) := by decide +kernel
theorem d10_48 : decode prog_17_method_6_code 48 = .ok (.invokestatic 53, 3) := by decide +kernel
theorem d10_51 : decode prog_17_method_6_code 51 = .ok (.areturn, 1) := by decide +kernel
theorem ef_10 (m : MethodId) (u_QosMeasure_COST : Addr) : entryFrame m #[(.ref u_QosMeasure_COST)] 5 = mkF m 0 #[.val (.ref u_QosMeasure_COST), .unset, .unset, .unset, .unset] [] := by first | (simp [entryFrame, mkF, argsToLocals, Value.category]; done) | rfl
def Q10 (Z : State) (u_QosMeasure_COST : Addr) (u_Objective__VALUES : Addr) (u_Objective_SERVICES : Addr) (u_Objective_RESPONSE_TIME : Addr) (u_Objective_THROUGHPUT : Addr) (kk : ClassId) (u_QosMeasure_RESPONSE_TIME : Addr) (u_QosMeasure_THROUGHPUT : Addr) (u_Optional_EMPTY : Addr) (h0 : Heap) (n0 : Nat) (v : Option Value) (h : Heap) (L : List Loc) : Prop := v = some (.ref u_Optional_EMPTY) ∧ Fr n0 L ∧ Keep h0 h []
set_option maxRecDepth 65536 in
set_option maxHeartbeats 40000000 in
theorem rm10 (l : Launch) (Z : State) (a0 : Array Value) (hw : ∀ d ∈ tables_1, d.before a0 Z = true) (ws : List Jvm.Cond) (u_QosMeasure_COST : Addr) (u_Objective__VALUES : Addr) (u_Objective_SERVICES : Addr) (u_Objective_RESPONSE_TIME : Addr) (u_Objective_THROUGHPUT : Addr) (kk : ClassId) (u_QosMeasure_RESPONSE_TIME : Addr) (u_QosMeasure_THROUGHPUT : Addr) (u_Optional_EMPTY : Addr) (h0 : Heap) (n0 : Nat) (Z0 : n0 ≤ h0.size) (Sv : Sta Z h0 "com/example/leanweave/leanweave/Objective" "$VALUES" "[Lcom/example/leanweave/leanweave/Objective;" (.ref u_Objective__VALUES)) (Vv : Arv Z h0 u_Objective__VALUES kk (.object "com/example/leanweave/leanweave/Objective") (3 : Int32) [(.ref u_Objective_SERVICES), (.ref u_Objective_RESPONSE_TIME), (.ref u_Objective_THROUGHPUT)] .null) (Ev : Exa Z h0 u_Objective__VALUES "[Lcom/example/leanweave/leanweave/Objective;") (FmS : Fld Z h0 u_Objective_SERVICES "com/example/leanweave/leanweave/Objective" "measure" "Lcom/example/leanweave/leanweave/QosMeasure;" .null) (FmR : Fld Z h0 u_Objective_RESPONSE_TIME "com/example/leanweave/leanweave/Objective" "measure" "Lcom/example/leanweave/leanweave/QosMeasure;" (.ref u_QosMeasure_RESPONSE_TIME)) (FmT : Fld Z h0 u_Objective_THROUGHPUT "com/example/leanweave/leanweave/Objective" "measure" "Lcom/example/leanweave/leanweave/QosMeasure;" (.ref u_QosMeasure_THROUGHPUT)) (Se : Sta Z h0 "java/util/Optional" "EMPTY" "Ljava/util/Optional;" (.ref u_Optional_EMPTY)) (hne1 : u_QosMeasure_RESPONSE_TIME ≠ u_QosMeasure_COST) (hne2 : u_QosMeasure_THROUGHPUT ≠ u_QosMeasure_COST) :
    MetFree l (⟨"com/example/leanweave/leanweave/Objective", "seeking", "(Lcom/example/leanweave/leanweave/QosMeasure;)Ljava/util/Optional;"⟩ : MethodName) (head1 (Jvm.Cond.code (⟨"com/example/leanweave/leanweave/Objective", "seeking", "(Lcom/example/leanweave/leanweave/QosMeasure;)Ljava/util/Optional;"⟩ : MethodName) prog_17_method_6_code 5 (some (.object "java/util/Optional")) :: ws) ({ frames := 2, cells := 1, slots := 3, locals := 25 } : Room)) (fun a U => a = #[(.ref u_QosMeasure_COST)] ∧ Z.Warmed39 U.vm ∧ U.heap = h0) (fun _ _ _ _ _ => True) (fun _ U o U' => ∃ v L, o = .returned v ∧ Q10 Z u_QosMeasure_COST u_Objective__VALUES u_Objective_SERVICES u_Objective_RESPONSE_TIME u_Objective_THROUGHPUT kk u_QosMeasure_RESPONSE_TIME u_QosMeasure_THROUGHPUT u_Optional_EMPTY h0 n0 v U'.heap L ∧ FrameEnd U o U' L ({ frames := 2, cells := 1, slots := 3, locals := 25 } : Room).cells ({ frames := 2, cells := 1, slots := 3, locals := 25 } : Room).slots) := by
  refine MetFree.of_bodySF (plainFor_of_name pn_0) hisR ?_
  intro p e s m args below meth c s₁ Bd hml0 hP hK
  obtain ⟨rfl, hZ, hh⟩ := hP
  have hx := Bd.exec
  have hby := Bd.bytes
  have hml : c.maxLocals = 5 := hml0
  have hown : s.vm.findClass "com/example/leanweave/leanweave/Objective" = some m.cls := findClass_of_methodNamed Bd.named
  have hnm := (name_of_methodNamed Bd.named Bd.method).1
  have X0 : Stand p l e ({ frames := 2, cells := 1, slots := 3, locals := 25 } : Room) s m #[(.ref u_QosMeasure_COST)] below meth c s₁ [] 0 0 := Stand.of_body Bd
  have e0 : s₁.heap = h0 := by rw [← hh, Bd.state]; rfl
  have N0 := Fr.nil n0
  have pre0 : ∀ t, Steps p.tables e below (s₁.setTop (mkF m 0 #[.val (.ref u_QosMeasure_COST), .unset, .unset, .unset, .unset] [])) t → Steps p.tables e below (s₁.setTop (entryFrame m #[(.ref u_QosMeasure_COST)] 5)) t := fun t k => castTop (ef_10 m u_QosMeasure_COST) k
  obtain ⟨_, _, ⟨T1, L1, k1, n1⟩, -, X1, ⟨Lc1, hQ1, l1, y1, z1⟩, st1⟩ := Jvm.LawKit.callS X0 hx (y := (⟨"com/example/leanweave/leanweave/Objective", "values", "()[Lcom/example/leanweave/leanweave/Objective;"⟩ : MethodName)) hown (mvT hZ (hw _ (List.mem_of_getElem? (i := 10) rfl))) (mvT hZ (hw _ (List.mem_of_getElem? (i := 11) rfl))) (mvT hZ (hw _ (List.mem_of_getElem? (i := 5) rfl))) (mvT hZ (hw _ (List.mem_of_getElem? (i := 12) rfl))) (by decide) (backOf (W := 0) (rm1 l Z a0 hw [] u_Objective__VALUES u_Objective_SERVICES u_Objective_RESPONSE_TIME u_Objective_THROUGHPUT kk h0 n0 Z0 Sv Vv Ev) hZ (hw _ (List.mem_of_getElem? (i := 12) rfl)) (hw _ (List.mem_of_getElem? (i := 5) rfl)) (by decide) (by decide)) (g := (mkF m 0 #[.val (.ref u_QosMeasure_COST), .unset, .unset, .unset, .unset] [])) rfl (by rw [hml]; rfl) (argsL := []) (rest := []) (lenOf pd_2 rfl) rfl (by show 2 * 0 + _ ≤ _; exact Nat.le_of_eq rfl) (hb hby d10_0) (fun _ _ => ⟨rfl, e0, (by decide : 0 + 1 ≤ _), (by decide : 0 + 3 ≤ _)⟩)
  dsimp only [Pt.U, Pt.locs, Pt.cells, Pt.slots] at X1 l1 y1 z1 st1 hQ1
  subst l1 y1 z1
  obtain ⟨b1_1, rfl, N1q, Kc1, ggb1_1, szb1_1, G1_0, G1_1⟩ := hQ1
  have ne2 : u_Objective__VALUES ≠ b1_1 := Nat.ne_of_lt (Nat.lt_of_lt_of_le Vv.lt szb1_1)
  have ne3 : u_Objective_SERVICES ≠ b1_1 := Nat.ne_of_lt (Nat.lt_of_lt_of_le FmS.lt szb1_1)
  have ne4 : u_Objective_RESPONSE_TIME ≠ b1_1 := Nat.ne_of_lt (Nat.lt_of_lt_of_le FmR.lt szb1_1)
  have ne5 : u_Objective_THROUGHPUT ≠ b1_1 := Nat.ne_of_lt (Nat.lt_of_lt_of_le FmT.lt szb1_1)
  have szzb1_1 : h0.size ≤ b1_1 := Nat.le_trans (Keep.refl h0 []).1 szb1_1
  have Zs1 : n0 ≤ T1.heap.size := Nat.le_trans Z0 Kc1.1
  have K1 : Keep h0 T1.heap [] := (Keep.refl h0 []).trans Kc1 all0
  have F6 : Sta Z T1.heap "com/example/leanweave/leanweave/Objective" "$VALUES" "[Lcom/example/leanweave/leanweave/Objective;" (.ref u_Objective__VALUES) := own_stakeep Sv Kc1 all0
  have F7 : Arv Z T1.heap u_Objective__VALUES kk (.object "com/example/leanweave/leanweave/Objective") (3 : Int32) [(.ref u_Objective_SERVICES), (.ref u_Objective_RESPONSE_TIME), (.ref u_Objective_THROUGHPUT)] .null := Vv.keep Kc1 nin0
  have F8 : Exa Z T1.heap u_Objective__VALUES "[Lcom/example/leanweave/leanweave/Objective;" := Ev.keep Kc1
  have F9 : Fld Z T1.heap u_Objective_SERVICES "com/example/leanweave/leanweave/Objective" "measure" "Lcom/example/leanweave/leanweave/QosMeasure;" .null := FmS.keep Kc1 nin0
  have F10 : Fld Z T1.heap u_Objective_RESPONSE_TIME "com/example/leanweave/leanweave/Objective" "measure" "Lcom/example/leanweave/leanweave/QosMeasure;" (.ref u_QosMeasure_RESPONSE_TIME) := FmR.keep Kc1 nin0
  have F11 : Fld Z T1.heap u_Objective_THROUGHPUT "com/example/leanweave/leanweave/Objective" "measure" "Lcom/example/leanweave/leanweave/QosMeasure;" (.ref u_QosMeasure_THROUGHPUT) := FmT.keep Kc1 nin0
  have F12 : Sta Z T1.heap "java/util/Optional" "EMPTY" "Ljava/util/Optional;" (.ref u_Optional_EMPTY) := own_stakeep Se Kc1 all0
  have N1 := Fr.app N0 N1q
  obtain ⟨cl13, Ar13, qc13, Sz13, Nn13, Hh13, Gg13⟩ := (id G1_0)
  obtain ⟨cl14, Ar14, qc14, Sz14, Nn14, Hh14, Gg14⟩ := (id G1_0)
  have hin14 : ¬ ((0 : Int32) < 0 ∨ cl14.slots.size ≤ ((0 : Int32)).toNatClampNeg) := inb_of Sz14 ⟨by decide, by decide⟩
  obtain ⟨T15, X15, e15, st15⟩ := getF X1 hx hZ hown (host := "") (Or.inl (hw _ (List.mem_of_getElem? (i := 27) rfl))) Via.refl rfl F9 (g := (mkF m 21 #[.val (.ref u_QosMeasure_COST), .val (.ref b1_1), .val (.int (3 : Int32)), .val (.int (0 : Int32)), .val (.ref u_Objective_SERVICES)] [(.ref u_Objective_SERVICES)])) rfl rfl (hb hby d10_21)
  obtain ⟨cl16, Ar16, qc16, Sz16, Nn16, Hh16, Gg16⟩ := (id G1_0)
  have hin16 : ¬ ((1 : Int32) < 0 ∨ cl16.slots.size ≤ ((1 : Int32)).toNatClampNeg) := inb_of Sz16 ⟨by decide, by decide⟩
  obtain ⟨T17, X17, e17, st17⟩ := getF X15 hx hZ hown (host := "") (Or.inl (hw _ (List.mem_of_getElem? (i := 27) rfl))) Via.refl e15 F10 (g := (mkF m 21 #[.val (.ref u_QosMeasure_COST), .val (.ref b1_1), .val (.int (3 : Int32)), .val (.int (1 : Int32)), .val (.ref u_Objective_RESPONSE_TIME)] [(.ref u_Objective_RESPONSE_TIME)])) rfl rfl (hb hby d10_21)
  obtain ⟨T18, X18, e18, st18⟩ := getF X17 hx hZ hown (host := "") (Or.inl (hw _ (List.mem_of_getElem? (i := 27) rfl))) Via.refl e17 F10 (g := (mkF m 29 #[.val (.ref u_QosMeasure_COST), .val (.ref b1_1), .val (.int (3 : Int32)), .val (.int (1 : Int32)), .val (.ref u_Objective_RESPONSE_TIME)] [(.ref u_Objective_RESPONSE_TIME)])) rfl rfl (hb hby d10_29)
  obtain ⟨cl19, Ar19, qc19, Sz19, Nn19, Hh19, Gg19⟩ := (id G1_0)
  have hin19 : ¬ ((2 : Int32) < 0 ∨ cl19.slots.size ≤ ((2 : Int32)).toNatClampNeg) := inb_of Sz19 ⟨by decide, by decide⟩
  obtain ⟨T20, X20, e20, st20⟩ := getF X18 hx hZ hown (host := "") (Or.inl (hw _ (List.mem_of_getElem? (i := 27) rfl))) Via.refl e18 F11 (g := (mkF m 21 #[.val (.ref u_QosMeasure_COST), .val (.ref b1_1), .val (.int (3 : Int32)), .val (.int (2 : Int32)), .val (.ref u_Objective_THROUGHPUT)] [(.ref u_Objective_THROUGHPUT)])) rfl rfl (hb hby d10_21)
  obtain ⟨T21, X21, e21, st21⟩ := getF X20 hx hZ hown (host := "") (Or.inl (hw _ (List.mem_of_getElem? (i := 27) rfl))) Via.refl e20 F11 (g := (mkF m 29 #[.val (.ref u_QosMeasure_COST), .val (.ref b1_1), .val (.int (3 : Int32)), .val (.int (2 : Int32)), .val (.ref u_Objective_THROUGHPUT)] [(.ref u_Objective_THROUGHPUT)])) rfl rfl (hb hby d10_29)
  obtain ⟨_, _, ⟨T22, L22, k22, n22⟩, -, X22, ⟨Lc22, hQ22, l22, y22, z22⟩, st22⟩ := Jvm.LawKit.callS X21 hx (y := (⟨"java/util/Optional", "empty", "()Ljava/util/Optional;"⟩ : MethodName)) hown (mvT hZ (hw _ (List.mem_of_getElem? (i := 58) rfl))) (mvT hZ (hw _ (List.mem_of_getElem? (i := 59) rfl))) (mvT hZ (hw _ (List.mem_of_getElem? (i := 31) rfl))) (mvT hZ (hw _ (List.mem_of_getElem? (i := 60) rfl))) (by decide) (backOf (W := 0) (rm5 l Z a0 hw [] u_Optional_EMPTY T1.heap n0 Zs1 F12) hZ (hw _ (List.mem_of_getElem? (i := 60) rfl)) (hw _ (List.mem_of_getElem? (i := 31) rfl)) (by decide) (by decide)) (g := (mkF m 48 #[.val (.ref u_QosMeasure_COST), .val (.ref b1_1), .val (.int (3 : Int32)), .val (.int (3 : Int32)), .val (.ref u_Objective_THROUGHPUT)] [])) rfl (by rw [hml]; rfl) (argsL := []) (rest := []) (lenOf pd_4 rfl) rfl (by show 2 * 0 + _ ≤ _; exact Nat.le_of_eq rfl) (hb hby d10_48) (fun _ _ => ⟨rfl, e21, (by decide : 1 + 0 ≤ _), (by decide : 3 + 0 ≤ _)⟩)
  dsimp only [Pt.U, Pt.locs, Pt.cells, Pt.slots] at X22 l22 y22 z22 st22 hQ22
  subst l22 y22 z22
  obtain ⟨rfl, N22q, eh22⟩ := hQ22
  have N22 := Fr.app N1 N22q
  have k23 : ∀ t, Steps p.tables e below (T22.setTop (mkF m 51 #[.val (.ref u_QosMeasure_COST), .val (.ref b1_1), .val (.int (3 : Int32)), .val (.int (3 : Int32)), .val (.ref u_Objective_THROUGHPUT)] [(.ref u_Optional_EMPTY)])) t → Steps p.tables e below (s₁.setTop (entryFrame m #[(.ref u_QosMeasure_COST)] 5)) t := by
    intro t k
    refine pre0 t ?_
    show Steps p.tables e below (s₁.setTop (mkF m 0 #[.val (.ref u_QosMeasure_COST), .unset, .unset, .unset, .unset] [])) _
    refine st1 _ ?_
    show Steps p.tables e below (T1.setTop (mkF m 3 #[.val (.ref u_QosMeasure_COST), .unset, .unset, .unset, .unset] [(.ref b1_1)])) _
    refine XS.astoreN X1.here hx rfl (hb hby d10_3) rfl rfl (l' := #[.val (.ref u_QosMeasure_COST), .val (.ref b1_1), .unset, .unset, .unset]) rfl ?_
    show Steps p.tables e below (T1.setTop (mkF m 4 #[.val (.ref u_QosMeasure_COST), .val (.ref b1_1), .unset, .unset, .unset] [])) _
    refine XS.aloadN X1.here hx rfl (hb hby d10_4) rfl rfl ?_
    show Steps p.tables e below (T1.setTop (mkF m 5 #[.val (.ref u_QosMeasure_COST), .val (.ref b1_1), .unset, .unset, .unset] [(.ref b1_1)])) _
    refine X1.arraylength hx Ar13.1 (State.isArrayOf_alike hZ.alike Ar13.2.1) (g := (mkF m 5 #[.val (.ref u_QosMeasure_COST), .val (.ref b1_1), .unset, .unset, .unset] [(.ref b1_1)])) rfl rfl (hb hby d10_5) _ ?_
    rw [len_of Sz13 Nn13]
    show Steps p.tables e below (T1.setTop (mkF m 6 #[.val (.ref u_QosMeasure_COST), .val (.ref b1_1), .unset, .unset, .unset] [(.int (3 : Int32))])) _
    refine XS.istoreN X1.here hx rfl (hb hby d10_6) rfl (l' := #[.val (.ref u_QosMeasure_COST), .val (.ref b1_1), .val (.int (3 : Int32)), .unset, .unset]) rfl ?_
    show Steps p.tables e below (T1.setTop (mkF m 7 #[.val (.ref u_QosMeasure_COST), .val (.ref b1_1), .val (.int (3 : Int32)), .unset, .unset] [])) _
    refine XS.iconst X1.here hx rfl (hb hby d10_7) ?_
    show Steps p.tables e below (T1.setTop (mkF m 8 #[.val (.ref u_QosMeasure_COST), .val (.ref b1_1), .val (.int (3 : Int32)), .unset, .unset] [(.int (0 : Int32))])) _
    refine XS.istoreN X1.here hx rfl (hb hby d10_8) rfl (l' := #[.val (.ref u_QosMeasure_COST), .val (.ref b1_1), .val (.int (3 : Int32)), .val (.int (0 : Int32)), .unset]) rfl ?_
    show Steps p.tables e below (T1.setTop (mkF m 9 #[.val (.ref u_QosMeasure_COST), .val (.ref b1_1), .val (.int (3 : Int32)), .val (.int (0 : Int32)), .unset] [])) _
    refine XS.iloadN X1.here hx rfl (hb hby d10_9) rfl ?_
    show Steps p.tables e below (T1.setTop (mkF m 10 #[.val (.ref u_QosMeasure_COST), .val (.ref b1_1), .val (.int (3 : Int32)), .val (.int (0 : Int32)), .unset] [(.int (0 : Int32))])) _
    refine XS.iloadN X1.here hx rfl (hb hby d10_10) rfl ?_
    show Steps p.tables e below (T1.setTop (mkF m 11 #[.val (.ref u_QosMeasure_COST), .val (.ref b1_1), .val (.int (3 : Int32)), .val (.int (0 : Int32)), .unset] [(.int (3 : Int32)), (.int (0 : Int32))])) _
    refine XS.icmpNo X1.here hx rfl (hb hby d10_11) rfl (tlt (by decide : (0 : Int32) < (3 : Int32))).2.1 ?_
    show Steps p.tables e below (T1.setTop (mkF m 14 #[.val (.ref u_QosMeasure_COST), .val (.ref b1_1), .val (.int (3 : Int32)), .val (.int (0 : Int32)), .unset] [])) _
    refine XS.aloadN X1.here hx rfl (hb hby d10_14) rfl rfl ?_
    show Steps p.tables e below (T1.setTop (mkF m 15 #[.val (.ref u_QosMeasure_COST), .val (.ref b1_1), .val (.int (3 : Int32)), .val (.int (0 : Int32)), .unset] [(.ref b1_1)])) _
    refine XS.iloadN X1.here hx rfl (hb hby d10_15) rfl ?_
    show Steps p.tables e below (T1.setTop (mkF m 16 #[.val (.ref u_QosMeasure_COST), .val (.ref b1_1), .val (.int (3 : Int32)), .val (.int (0 : Int32)), .unset] [(.int (0 : Int32)), (.ref b1_1)])) _
    refine X1.aaload hx (j := (0 : Int32)) (v := (.ref u_Objective_SERVICES)) Ar14.1 (State.isArrayOf_alike hZ.alike Ar14.2.1) rfl Ar14.2.2 hin14 (Hh14.at hin14 rfl) (g := (mkF m 16 #[.val (.ref u_QosMeasure_COST), .val (.ref b1_1), .val (.int (3 : Int32)), .val (.int (0 : Int32)), .unset] [(.int (0 : Int32)), (.ref b1_1)])) rfl rfl (hb hby d10_16) _ ?_
    show Steps p.tables e below (T1.setTop (mkF m 17 #[.val (.ref u_QosMeasure_COST), .val (.ref b1_1), .val (.int (3 : Int32)), .val (.int (0 : Int32)), .unset] [(.ref u_Objective_SERVICES)])) _
    refine XS.astore X1.here hx rfl (hb hby d10_17) rfl rfl (l' := #[.val (.ref u_QosMeasure_COST), .val (.ref b1_1), .val (.int (3 : Int32)), .val (.int (0 : Int32)), .val (.ref u_Objective_SERVICES)]) rfl ?_
    show Steps p.tables e below (T1.setTop (mkF m 19 #[.val (.ref u_QosMeasure_COST), .val (.ref b1_1), .val (.int (3 : Int32)), .val (.int (0 : Int32)), .val (.ref u_Objective_SERVICES)] [])) _
    refine XS.aload X1.here hx rfl (hb hby d10_19) rfl rfl ?_
    show Steps p.tables e below (T1.setTop (mkF m 21 #[.val (.ref u_QosMeasure_COST), .val (.ref b1_1), .val (.int (3 : Int32)), .val (.int (0 : Int32)), .val (.ref u_Objective_SERVICES)] [(.ref u_Objective_SERVICES)])) _
    refine st15 _ ?_
    show Steps p.tables e below (T15.setTop (mkF m 24 #[.val (.ref u_QosMeasure_COST), .val (.ref b1_1), .val (.int (3 : Int32)), .val (.int (0 : Int32)), .val (.ref u_Objective_SERVICES)] [.null])) _
    refine XS.ifnullYes X15.here hx rfl (pc0 := 24) (pc' := 42) rfl (hb hby d10_24) rfl (by decide) (by decide) ?_
    show Steps p.tables e below (T15.setTop (mkF m 42 #[.val (.ref u_QosMeasure_COST), .val (.ref b1_1), .val (.int (3 : Int32)), .val (.int (0 : Int32)), .val (.ref u_Objective_SERVICES)] [])) _
    refine XS.iinc X15.here hx rfl (hb hby d10_42) rfl (l' := #[.val (.ref u_QosMeasure_COST), .val (.ref b1_1), .val (.int (3 : Int32)), .val (.int (1 : Int32)), .val (.ref u_Objective_SERVICES)]) rfl ?_
    show Steps p.tables e below (T15.setTop (mkF m 45 #[.val (.ref u_QosMeasure_COST), .val (.ref b1_1), .val (.int (3 : Int32)), .val (.int (1 : Int32)), .val (.ref u_Objective_SERVICES)] [])) _
    refine XS.goto X15.here hx rfl (pc0 := 45) (pc' := 9) rfl (hb hby d10_45) (by decide) (by decide) ?_
    show Steps p.tables e below (T15.setTop (mkF m 9 #[.val (.ref u_QosMeasure_COST), .val (.ref b1_1), .val (.int (3 : Int32)), .val (.int (1 : Int32)), .val (.ref u_Objective_SERVICES)] [])) _
    refine XS.iloadN X15.here hx rfl (hb hby d10_9) rfl ?_
    show Steps p.tables e below (T15.setTop (mkF m 10 #[.val (.ref u_QosMeasure_COST), .val (.ref b1_1), .val (.int (3 : Int32)), .val (.int (1 : Int32)), .val (.ref u_Objective_SERVICES)] [(.int (1 : Int32))])) _
    refine XS.iloadN X15.here hx rfl (hb hby d10_10) rfl ?_
    show Steps p.tables e below (T15.setTop (mkF m 11 #[.val (.ref u_QosMeasure_COST), .val (.ref b1_1), .val (.int (3 : Int32)), .val (.int (1 : Int32)), .val (.ref u_Objective_SERVICES)] [(.int (3 : Int32)), (.int (1 : Int32))])) _
    refine XS.icmpNo X15.here hx rfl (hb hby d10_11) rfl (tlt (by decide : (1 : Int32) < (3 : Int32))).2.1 ?_
    show Steps p.tables e below (T15.setTop (mkF m 14 #[.val (.ref u_QosMeasure_COST), .val (.ref b1_1), .val (.int (3 : Int32)), .val (.int (1 : Int32)), .val (.ref u_Objective_SERVICES)] [])) _
    refine XS.aloadN X15.here hx rfl (hb hby d10_14) rfl rfl ?_
    show Steps p.tables e below (T15.setTop (mkF m 15 #[.val (.ref u_QosMeasure_COST), .val (.ref b1_1), .val (.int (3 : Int32)), .val (.int (1 : Int32)), .val (.ref u_Objective_SERVICES)] [(.ref b1_1)])) _
    refine XS.iloadN X15.here hx rfl (hb hby d10_15) rfl ?_
    show Steps p.tables e below (T15.setTop (mkF m 16 #[.val (.ref u_QosMeasure_COST), .val (.ref b1_1), .val (.int (3 : Int32)), .val (.int (1 : Int32)), .val (.ref u_Objective_SERVICES)] [(.int (1 : Int32)), (.ref b1_1)])) _
    refine X15.aaload hx (j := (1 : Int32)) (v := (.ref u_Objective_RESPONSE_TIME)) (by rw [e15]; exact Ar16.1) (State.isArrayOf_alike hZ.alike Ar16.2.1) rfl Ar16.2.2 hin16 (Hh16.at hin16 rfl) (g := (mkF m 16 #[.val (.ref u_QosMeasure_COST), .val (.ref b1_1), .val (.int (3 : Int32)), .val (.int (1 : Int32)), .val (.ref u_Objective_SERVICES)] [(.int (1 : Int32)), (.ref b1_1)])) rfl rfl (hb hby d10_16) _ ?_
    show Steps p.tables e below (T15.setTop (mkF m 17 #[.val (.ref u_QosMeasure_COST), .val (.ref b1_1), .val (.int (3 : Int32)), .val (.int (1 : Int32)), .val (.ref u_Objective_SERVICES)] [(.ref u_Objective_RESPONSE_TIME)])) _
    refine XS.astore X15.here hx rfl (hb hby d10_17) rfl rfl (l' := #[.val (.ref u_QosMeasure_COST), .val (.ref b1_1), .val (.int (3 : Int32)), .val (.int (1 : Int32)), .val (.ref u_Objective_RESPONSE_TIME)]) rfl ?_
    show Steps p.tables e below (T15.setTop (mkF m 19 #[.val (.ref u_QosMeasure_COST), .val (.ref b1_1), .val (.int (3 : Int32)), .val (.int (1 : Int32)), .val (.ref u_Objective_RESPONSE_TIME)] [])) _
    refine XS.aload X15.here hx rfl (hb hby d10_19) rfl rfl ?_
    show Steps p.tables e below (T15.setTop (mkF m 21 #[.val (.ref u_QosMeasure_COST), .val (.ref b1_1), .val (.int (3 : Int32)), .val (.int (1 : Int32)), .val (.ref u_Objective_RESPONSE_TIME)] [(.ref u_Objective_RESPONSE_TIME)])) _
    refine st17 _ ?_
    show Steps p.tables e below (T17.setTop (mkF m 24 #[.val (.ref u_QosMeasure_COST), .val (.ref b1_1), .val (.int (3 : Int32)), .val (.int (1 : Int32)), .val (.ref u_Objective_RESPONSE_TIME)] [(.ref u_QosMeasure_RESPONSE_TIME)])) _
    refine XS.ifnullNo X17.here hx rfl (hb hby d10_24) rfl ?_
    show Steps p.tables e below (T17.setTop (mkF m 27 #[.val (.ref u_QosMeasure_COST), .val (.ref b1_1), .val (.int (3 : Int32)), .val (.int (1 : Int32)), .val (.ref u_Objective_RESPONSE_TIME)] [])) _
    refine XS.aload X17.here hx rfl (hb hby d10_27) rfl rfl ?_
    show Steps p.tables e below (T17.setTop (mkF m 29 #[.val (.ref u_QosMeasure_COST), .val (.ref b1_1), .val (.int (3 : Int32)), .val (.int (1 : Int32)), .val (.ref u_Objective_RESPONSE_TIME)] [(.ref u_Objective_RESPONSE_TIME)])) _
    refine st18 _ ?_
    show Steps p.tables e below (T18.setTop (mkF m 32 #[.val (.ref u_QosMeasure_COST), .val (.ref b1_1), .val (.int (3 : Int32)), .val (.int (1 : Int32)), .val (.ref u_Objective_RESPONSE_TIME)] [(.ref u_QosMeasure_RESPONSE_TIME)])) _
    refine XS.aloadN X18.here hx rfl (hb hby d10_32) rfl rfl ?_
    show Steps p.tables e below (T18.setTop (mkF m 33 #[.val (.ref u_QosMeasure_COST), .val (.ref b1_1), .val (.int (3 : Int32)), .val (.int (1 : Int32)), .val (.ref u_Objective_RESPONSE_TIME)] [(.ref u_QosMeasure_COST), (.ref u_QosMeasure_RESPONSE_TIME)])) _
    refine Jvm.RoadKit.acmp (g := (mkF m 33 #[.val (.ref u_QosMeasure_COST), .val (.ref b1_1), .val (.int (3 : Int32)), .val (.int (1 : Int32)), .val (.ref u_Objective_RESPONSE_TIME)] [(.ref u_QosMeasure_COST), (.ref u_QosMeasure_RESPONSE_TIME)])) X18 hx rfl rfl rfl (pc0 := 33) (pc' := 42) (same := false) rfl (hb hby d10_33) rfl (decide_eq_false fun q => hne1 (Value.ref.inj q)) (by decide) (by decide) ?_
    show Steps p.tables e below (T18.setTop (mkF m 42 #[.val (.ref u_QosMeasure_COST), .val (.ref b1_1), .val (.int (3 : Int32)), .val (.int (1 : Int32)), .val (.ref u_Objective_RESPONSE_TIME)] [])) _
    refine XS.iinc X18.here hx rfl (hb hby d10_42) rfl (l' := #[.val (.ref u_QosMeasure_COST), .val (.ref b1_1), .val (.int (3 : Int32)), .val (.int (2 : Int32)), .val (.ref u_Objective_RESPONSE_TIME)]) rfl ?_
    show Steps p.tables e below (T18.setTop (mkF m 45 #[.val (.ref u_QosMeasure_COST), .val (.ref b1_1), .val (.int (3 : Int32)), .val (.int (2 : Int32)), .val (.ref u_Objective_RESPONSE_TIME)] [])) _
    refine XS.goto X18.here hx rfl (pc0 := 45) (pc' := 9) rfl (hb hby d10_45) (by decide) (by decide) ?_
    show Steps p.tables e below (T18.setTop (mkF m 9 #[.val (.ref u_QosMeasure_COST), .val (.ref b1_1), .val (.int (3 : Int32)), .val (.int (2 : Int32)), .val (.ref u_Objective_RESPONSE_TIME)] [])) _
    refine XS.iloadN X18.here hx rfl (hb hby d10_9) rfl ?_
    show Steps p.tables e below (T18.setTop (mkF m 10 #[.val (.ref u_QosMeasure_COST), .val (.ref b1_1), .val (.int (3 : Int32)), .val (.int (2 : Int32)), .val (.ref u_Objective_RESPONSE_TIME)] [(.int (2 : Int32))])) _
    refine XS.iloadN X18.here hx rfl (hb hby d10_10) rfl ?_
    show Steps p.tables e below (T18.setTop (mkF m 11 #[.val (.ref u_QosMeasure_COST), .val (.ref b1_1), .val (.int (3 : Int32)), .val (.int (2 : Int32)), .val (.ref u_Objective_RESPONSE_TIME)] [(.int (3 : Int32)), (.int (2 : Int32))])) _
    refine XS.icmpNo X18.here hx rfl (hb hby d10_11) rfl (tlt (by decide : (2 : Int32) < (3 : Int32))).2.1 ?_
    show Steps p.tables e below (T18.setTop (mkF m 14 #[.val (.ref u_QosMeasure_COST), .val (.ref b1_1), .val (.int (3 : Int32)), .val (.int (2 : Int32)), .val (.ref u_Objective_RESPONSE_TIME)] [])) _
    refine XS.aloadN X18.here hx rfl (hb hby d10_14) rfl rfl ?_
    show Steps p.tables e below (T18.setTop (mkF m 15 #[.val (.ref u_QosMeasure_COST), .val (.ref b1_1), .val (.int (3 : Int32)), .val (.int (2 : Int32)), .val (.ref u_Objective_RESPONSE_TIME)] [(.ref b1_1)])) _
    refine XS.iloadN X18.here hx rfl (hb hby d10_15) rfl ?_
    show Steps p.tables e below (T18.setTop (mkF m 16 #[.val (.ref u_QosMeasure_COST), .val (.ref b1_1), .val (.int (3 : Int32)), .val (.int (2 : Int32)), .val (.ref u_Objective_RESPONSE_TIME)] [(.int (2 : Int32)), (.ref b1_1)])) _
    refine X18.aaload hx (j := (2 : Int32)) (v := (.ref u_Objective_THROUGHPUT)) (by rw [e18]; exact Ar19.1) (State.isArrayOf_alike hZ.alike Ar19.2.1) rfl Ar19.2.2 hin19 (Hh19.at hin19 rfl) (g := (mkF m 16 #[.val (.ref u_QosMeasure_COST), .val (.ref b1_1), .val (.int (3 : Int32)), .val (.int (2 : Int32)), .val (.ref u_Objective_RESPONSE_TIME)] [(.int (2 : Int32)), (.ref b1_1)])) rfl rfl (hb hby d10_16) _ ?_
    show Steps p.tables e below (T18.setTop (mkF m 17 #[.val (.ref u_QosMeasure_COST), .val (.ref b1_1), .val (.int (3 : Int32)), .val (.int (2 : Int32)), .val (.ref u_Objective_RESPONSE_TIME)] [(.ref u_Objective_THROUGHPUT)])) _
    refine XS.astore X18.here hx rfl (hb hby d10_17) rfl rfl (l' := #[.val (.ref u_QosMeasure_COST), .val (.ref b1_1), .val (.int (3 : Int32)), .val (.int (2 : Int32)), .val (.ref u_Objective_THROUGHPUT)]) rfl ?_
    show Steps p.tables e below (T18.setTop (mkF m 19 #[.val (.ref u_QosMeasure_COST), .val (.ref b1_1), .val (.int (3 : Int32)), .val (.int (2 : Int32)), .val (.ref u_Objective_THROUGHPUT)] [])) _
    refine XS.aload X18.here hx rfl (hb hby d10_19) rfl rfl ?_
    show Steps p.tables e below (T18.setTop (mkF m 21 #[.val (.ref u_QosMeasure_COST), .val (.ref b1_1), .val (.int (3 : Int32)), .val (.int (2 : Int32)), .val (.ref u_Objective_THROUGHPUT)] [(.ref u_Objective_THROUGHPUT)])) _
    refine st20 _ ?_
    show Steps p.tables e below (T20.setTop (mkF m 24 #[.val (.ref u_QosMeasure_COST), .val (.ref b1_1), .val (.int (3 : Int32)), .val (.int (2 : Int32)), .val (.ref u_Objective_THROUGHPUT)] [(.ref u_QosMeasure_THROUGHPUT)])) _
    refine XS.ifnullNo X20.here hx rfl (hb hby d10_24) rfl ?_
    show Steps p.tables e below (T20.setTop (mkF m 27 #[.val (.ref u_QosMeasure_COST), .val (.ref b1_1), .val (.int (3 : Int32)), .val (.int (2 : Int32)), .val (.ref u_Objective_THROUGHPUT)] [])) _
    refine XS.aload X20.here hx rfl (hb hby d10_27) rfl rfl ?_
    show Steps p.tables e below (T20.setTop (mkF m 29 #[.val (.ref u_QosMeasure_COST), .val (.ref b1_1), .val (.int (3 : Int32)), .val (.int (2 : Int32)), .val (.ref u_Objective_THROUGHPUT)] [(.ref u_Objective_THROUGHPUT)])) _
    refine st21 _ ?_
    show Steps p.tables e below (T21.setTop (mkF m 32 #[.val (.ref u_QosMeasure_COST), .val (.ref b1_1), .val (.int (3 : Int32)), .val (.int (2 : Int32)), .val (.ref u_Objective_THROUGHPUT)] [(.ref u_QosMeasure_THROUGHPUT)])) _
    refine XS.aloadN X21.here hx rfl (hb hby d10_32) rfl rfl ?_
    show Steps p.tables e below (T21.setTop (mkF m 33 #[.val (.ref u_QosMeasure_COST), .val (.ref b1_1), .val (.int (3 : Int32)), .val (.int (2 : Int32)), .val (.ref u_Objective_THROUGHPUT)] [(.ref u_QosMeasure_COST), (.ref u_QosMeasure_THROUGHPUT)])) _
    refine Jvm.RoadKit.acmp (g := (mkF m 33 #[.val (.ref u_QosMeasure_COST), .val (.ref b1_1), .val (.int (3 : Int32)), .val (.int (2 : Int32)), .val (.ref u_Objective_THROUGHPUT)] [(.ref u_QosMeasure_COST), (.ref u_QosMeasure_THROUGHPUT)])) X21 hx rfl rfl rfl (pc0 := 33) (pc' := 42) (same := false) rfl (hb hby d10_33) rfl (decide_eq_false fun q => hne2 (Value.ref.inj q)) (by decide) (by decide) ?_
    show Steps p.tables e below (T21.setTop (mkF m 42 #[.val (.ref u_QosMeasure_COST), .val (.ref b1_1), .val (.int (3 : Int32)), .val (.int (2 : Int32)), .val (.ref u_Objective_THROUGHPUT)] [])) _
    refine XS.iinc X21.here hx rfl (hb hby d10_42) rfl (l' := #[.val (.ref u_QosMeasure_COST), .val (.ref b1_1), .val (.int (3 : Int32)), .val (.int (3 : Int32)), .val (.ref u_Objective_THROUGHPUT)]) rfl ?_
    show Steps p.tables e below (T21.setTop (mkF m 45 #[.val (.ref u_QosMeasure_COST), .val (.ref b1_1), .val (.int (3 : Int32)), .val (.int (3 : Int32)), .val (.ref u_Objective_THROUGHPUT)] [])) _
    refine XS.goto X21.here hx rfl (pc0 := 45) (pc' := 9) rfl (hb hby d10_45) (by decide) (by decide) ?_
    show Steps p.tables e below (T21.setTop (mkF m 9 #[.val (.ref u_QosMeasure_COST), .val (.ref b1_1), .val (.int (3 : Int32)), .val (.int (3 : Int32)), .val (.ref u_Objective_THROUGHPUT)] [])) _
    refine XS.iloadN X21.here hx rfl (hb hby d10_9) rfl ?_
    show Steps p.tables e below (T21.setTop (mkF m 10 #[.val (.ref u_QosMeasure_COST), .val (.ref b1_1), .val (.int (3 : Int32)), .val (.int (3 : Int32)), .val (.ref u_Objective_THROUGHPUT)] [(.int (3 : Int32))])) _
    refine XS.iloadN X21.here hx rfl (hb hby d10_10) rfl ?_
    show Steps p.tables e below (T21.setTop (mkF m 11 #[.val (.ref u_QosMeasure_COST), .val (.ref b1_1), .val (.int (3 : Int32)), .val (.int (3 : Int32)), .val (.ref u_Objective_THROUGHPUT)] [(.int (3 : Int32)), (.int (3 : Int32))])) _
    refine XS.icmpYes X21.here hx rfl (pc0 := 11) (pc' := 48) rfl (hb hby d10_11) rfl (flt (by decide : ¬ ((3 : Int32) < (3 : Int32)))).2.1 (by decide) (by decide) ?_
    show Steps p.tables e below (T21.setTop (mkF m 48 #[.val (.ref u_QosMeasure_COST), .val (.ref b1_1), .val (.int (3 : Int32)), .val (.int (3 : Int32)), .val (.ref u_Objective_THROUGHPUT)] [])) _
    refine st22 _ ?_
    exact k
  obtain ⟨fs, hr, hrun, hended, hW, hsame⟩ := X22.leave (v := some (.ref u_Optional_EMPTY)) (fun h => by rw [Bd.returns] at h; cases h)
  refine ⟨_, _, k23 _ ?_, hrun, hended, _, _, rfl, ?_, ⟨_, rfl⟩, hW, hsame.mono (by decide) (by decide)⟩
  · exact retOut X22 hx Bd.returns rfl (Or.inr (Or.inr (Or.inr (Or.inr ⟨rfl, rfl, rfl⟩)))) (hb hby d10_51) hr
  · show Q10 Z u_QosMeasure_COST u_Objective__VALUES u_Objective_SERVICES u_Objective_RESPONSE_TIME u_Objective_THROUGHPUT kk u_QosMeasure_RESPONSE_TIME u_QosMeasure_THROUGHPUT u_Optional_EMPTY h0 n0 _ T22.heap _
    rw [eh22]
    exact ⟨rfl, N22, K1⟩
theorem pn_3 : plainName "com/example/leanweave/leanweave/ObjectiveSeekingPinLaw" = true := by first | (simp [plainName, overriddenIn]; done) | decide +kernel
theorem pd_5 : parseMethodDescriptor "(Lcom/example/leanweave/leanweave/QosMeasure;)Ljava/util/Optional;" = some ⟨[(.object "com/example/leanweave/leanweave/QosMeasure")], some (.object "java/util/Optional")⟩ := by decide +kernel
theorem ef_0 (m : MethodId) (p0_0 : Int32) : entryFrame m #[(.int p0_0)] maxLocals = mkF m 0 #[.val (.int p0_0), .unset, .unset, .unset, .unset] [] := by first | (simp [entryFrame, mkF, argsToLocals, Value.category, maxLocals]; done) | rfl
def Q0 (Z : State) (p0_0 : Int32) (u_Optional_EMPTY : Addr) (u_QosMeasure_RESPONSE_TIME : Addr) (u_Objective_RESPONSE_TIME : Addr) (u_Objective__VALUES : Addr) (cl_u_Objective__VALUES : Cell) (u_Objective_SERVICES : Addr) (u_Objective_THROUGHPUT : Addr) (u_QosMeasure_COST : Addr) (u_QosMeasure_THROUGHPUT : Addr) (h0 : Heap) (n0 : Nat) (v : Option Value) (h : Heap) (L : List Loc) : Prop := v = some (.int (1 : Int32)) ∧ Fr n0 L
set_option maxRecDepth 65536 in
set_option maxHeartbeats 40000000 in
theorem rm0 (l : Launch) (Z : State) (a0 : Array Value) (hw : ∀ d ∈ tables_1, d.before a0 Z = true) (ws : List Jvm.Cond) (p0_0 : Int32) (u_Optional_EMPTY : Addr) (u_QosMeasure_RESPONSE_TIME : Addr) (u_Objective_RESPONSE_TIME : Addr) (u_Objective__VALUES : Addr) (cl_u_Objective__VALUES : Cell) (u_Objective_SERVICES : Addr) (u_Objective_THROUGHPUT : Addr) (u_QosMeasure_COST : Addr) (u_QosMeasure_THROUGHPUT : Addr) (h0 : Heap) (n0 : Nat) (Z0 : n0 ≤ h0.size) (S_Optional_EMPTY : Sta Z h0 "java/util/Optional" "EMPTY" "Ljava/util/Optional;" (.ref u_Optional_EMPTY)) (E_u_Optional_EMPTY : Exa Z h0 u_Optional_EMPTY "java/util/Optional") (F_u_Optional_EMPTY_value : Fld Z h0 u_Optional_EMPTY "java/util/Optional" "value" "Ljava/lang/Object;" .null) (S_QosMeasure_RESPONSE_TIME : Sta Z h0 "com/example/leanweave/leanweave/QosMeasure" "RESPONSE_TIME" "Lcom/example/leanweave/leanweave/QosMeasure;" (.ref u_QosMeasure_RESPONSE_TIME)) (E_u_QosMeasure_RESPONSE_TIME : Exa Z h0 u_QosMeasure_RESPONSE_TIME "com/example/leanweave/leanweave/QosMeasure") (S_Objective_RESPONSE_TIME : Sta Z h0 "com/example/leanweave/leanweave/Objective" "RESPONSE_TIME" "Lcom/example/leanweave/leanweave/Objective;" (.ref u_Objective_RESPONSE_TIME)) (E_u_Objective_RESPONSE_TIME : Exa Z h0 u_Objective_RESPONSE_TIME "com/example/leanweave/leanweave/Objective") (S_Objective__VALUES : Sta Z h0 "com/example/leanweave/leanweave/Objective" "$VALUES" "[Lcom/example/leanweave/leanweave/Objective;" (.ref u_Objective__VALUES)) (E_u_Objective__VALUES : Exa Z h0 u_Objective__VALUES "[Lcom/example/leanweave/leanweave/Objective;") (S_Objective_SERVICES : Sta Z h0 "com/example/leanweave/leanweave/Objective" "SERVICES" "Lcom/example/leanweave/leanweave/Objective;" (.ref u_Objective_SERVICES)) (E_u_Objective_SERVICES : Exa Z h0 u_Objective_SERVICES "com/example/leanweave/leanweave/Objective") (S_Objective_THROUGHPUT : Sta Z h0 "com/example/leanweave/leanweave/Objective" "THROUGHPUT" "Lcom/example/leanweave/leanweave/Objective;" (.ref u_Objective_THROUGHPUT)) (E_u_Objective_THROUGHPUT : Exa Z h0 u_Objective_THROUGHPUT "com/example/leanweave/leanweave/Objective") (F_u_Objective_SERVICES_measure : Fld Z h0 u_Objective_SERVICES "com/example/leanweave/leanweave/Objective" "measure" "Lcom/example/leanweave/leanweave/QosMeasure;" .null) (F_u_Objective_RESPONSE_TIME_measure : Fld Z h0 u_Objective_RESPONSE_TIME "com/example/leanweave/leanweave/Objective" "measure" "Lcom/example/leanweave/leanweave/QosMeasure;" (.ref u_QosMeasure_RESPONSE_TIME)) (S_QosMeasure_COST : Sta Z h0 "com/example/leanweave/leanweave/QosMeasure" "COST" "Lcom/example/leanweave/leanweave/QosMeasure;" (.ref u_QosMeasure_COST)) (E_u_QosMeasure_COST : Exa Z h0 u_QosMeasure_COST "com/example/leanweave/leanweave/QosMeasure") (F_u_QosMeasure_RESPONSE_TIME_ordinal : Fld Z h0 u_QosMeasure_RESPONSE_TIME "java/lang/Enum" "ordinal" "I" (.int (0 : Int32))) (F_u_QosMeasure_COST_ordinal : Fld Z h0 u_QosMeasure_COST "java/lang/Enum" "ordinal" "I" (.int (2 : Int32))) (S_QosMeasure_THROUGHPUT : Sta Z h0 "com/example/leanweave/leanweave/QosMeasure" "THROUGHPUT" "Lcom/example/leanweave/leanweave/QosMeasure;" (.ref u_QosMeasure_THROUGHPUT)) (E_u_QosMeasure_THROUGHPUT : Exa Z h0 u_QosMeasure_THROUGHPUT "com/example/leanweave/leanweave/QosMeasure") (F_u_Objective_THROUGHPUT_measure : Fld Z h0 u_Objective_THROUGHPUT "com/example/leanweave/leanweave/Objective" "measure" "Lcom/example/leanweave/leanweave/QosMeasure;" (.ref u_QosMeasure_THROUGHPUT)) (F_u_QosMeasure_THROUGHPUT_ordinal : Fld Z h0 u_QosMeasure_THROUGHPUT "java/lang/Enum" "ordinal" "I" (.int (1 : Int32))) (V_u_Objective__VALUES : Arv Z h0 u_Objective__VALUES cl_u_Objective__VALUES.cls (.object "com/example/leanweave/leanweave/Objective") (3 : Int32) [(.ref u_Objective_SERVICES), (.ref u_Objective_RESPONSE_TIME), (.ref u_Objective_THROUGHPUT)] .null) :
    MetFree l x (head1 (Jvm.Cond.code x code maxLocals ret :: ws) room_1) (fun a U => a = #[(.int p0_0)] ∧ Z.Warmed39 U.vm ∧ U.heap = h0) (fun _ _ _ _ _ => True) (fun _ U o U' => ∃ v L, o = .returned v ∧ Q0 Z p0_0 u_Optional_EMPTY u_QosMeasure_RESPONSE_TIME u_Objective_RESPONSE_TIME u_Objective__VALUES cl_u_Objective__VALUES u_Objective_SERVICES u_Objective_THROUGHPUT u_QosMeasure_COST u_QosMeasure_THROUGHPUT h0 n0 v U'.heap L ∧ FrameEnd U o U' L 16 128) := by
  refine MetFree.of_bodySF (plainFor_of_name pn_3) hisR ?_
  intro p e s m args below meth c s₁ Bd hml0 hP hK
  obtain ⟨rfl, hZ, hh⟩ := hP
  have hx := Bd.exec
  have hby := Bd.bytes
  have hml : c.maxLocals = 5 := hml0
  have hown : s.vm.findClass "com/example/leanweave/leanweave/ObjectiveSeekingPinLaw" = some m.cls := findClass_of_methodNamed Bd.named
  have hnm := (name_of_methodNamed Bd.named Bd.method).1
  have X0 : Stand p l e room_1 s m #[(.int p0_0)] below meth c s₁ [] 0 0 := Stand.of_body Bd
  have e0 : s₁.heap = h0 := by rw [← hh, Bd.state]; rfl
  have N0 := Fr.nil n0
  have pre0 : ∀ t, Steps p.tables e below (s₁.setTop (mkF m 0 #[.val (.int p0_0), .unset, .unset, .unset, .unset] [])) t → Steps p.tables e below (s₁.setTop (entryFrame m #[(.int p0_0)] maxLocals)) t := fun t k => castTop (ef_0 m p0_0) k
  have ne_u_QosMeasure_RESPONSE_TIME_u_QosMeasure_THROUGHPUT : u_QosMeasure_RESPONSE_TIME ≠ u_QosMeasure_THROUGHPUT := Fld.ne F_u_QosMeasure_RESPONSE_TIME_ordinal F_u_QosMeasure_THROUGHPUT_ordinal (by intro q; cases q)
  have ne_u_QosMeasure_RESPONSE_TIME_u_QosMeasure_COST : u_QosMeasure_RESPONSE_TIME ≠ u_QosMeasure_COST := Fld.ne F_u_QosMeasure_RESPONSE_TIME_ordinal F_u_QosMeasure_COST_ordinal (by intro q; cases q)
  have ne_u_QosMeasure_THROUGHPUT_u_QosMeasure_COST : u_QosMeasure_THROUGHPUT ≠ u_QosMeasure_COST := Fld.ne F_u_QosMeasure_THROUGHPUT_ordinal F_u_QosMeasure_COST_ordinal (by intro q; cases q)
  have k1 : ∀ t, Steps p.tables e below (s₁.setTop (mkF m 7 #[.val (.int p0_0), .val (.int ((p0_0 &&& (2147483647 : Int32)) % (3 : Int32))), .unset, .unset, .unset] [])) t → Steps p.tables e below (s₁.setTop (entryFrame m #[(.int p0_0)] maxLocals)) t := by
    intro t k
    refine pre0 t ?_
    show Steps p.tables e below (s₁.setTop (mkF m 0 #[.val (.int p0_0), .unset, .unset, .unset, .unset] [])) _
    refine XS.iloadN X0.here hx rfl (hb hby at_0) rfl ?_
    show Steps p.tables e below (s₁.setTop (mkF m 1 #[.val (.int p0_0), .unset, .unset, .unset, .unset] [(.int p0_0)])) _
    refine X0.ldcInt hx hown (mvT hZ (hw _ (List.mem_of_getElem? (i := 0) rfl))) (g := (mkF m 1 #[.val (.int p0_0), .unset, .unset, .unset, .unset] [(.int p0_0)])) rfl (hb hby at_1) _ ?_
    show Steps p.tables e below (s₁.setTop (mkF m 3 #[.val (.int p0_0), .unset, .unset, .unset, .unset] [(.int (2147483647 : Int32)), (.int p0_0)])) _
    refine XS.iand X0.here hx rfl (hb hby at_3) rfl ?_
    show Steps p.tables e below (s₁.setTop (mkF m 4 #[.val (.int p0_0), .unset, .unset, .unset, .unset] [(.int (p0_0 &&& (2147483647 : Int32)))])) _
    refine XS.iconst X0.here hx rfl (hb hby at_4) ?_
    show Steps p.tables e below (s₁.setTop (mkF m 5 #[.val (.int p0_0), .unset, .unset, .unset, .unset] [(.int (3 : Int32)), (.int (p0_0 &&& (2147483647 : Int32)))])) _
    refine iremM X0 hx rfl (hb hby at_5) rfl (by decide) ?_
    show Steps p.tables e below (s₁.setTop (mkF m 6 #[.val (.int p0_0), .unset, .unset, .unset, .unset] [(.int ((p0_0 &&& (2147483647 : Int32)) % (3 : Int32)))])) _
    refine XS.istoreN X0.here hx rfl (hb hby at_6) rfl (l' := #[.val (.int p0_0), .val (.int ((p0_0 &&& (2147483647 : Int32)) % (3 : Int32))), .unset, .unset, .unset]) rfl ?_
    exact k
  obtain ⟨z2, hz2⟩ : ∃ z, z = ((p0_0 &&& (2147483647 : Int32)) % (3 : Int32)) := ⟨_, rfl⟩
  rw [← hz2] at k1
  have hz2' : z2 = (0 : Int32) ∨ z2 = (1 : Int32) ∨ z2 = (2 : Int32) := by rw [hz2]; exact own_mod3 _
  rcases hz2' with rfl | rfl | rfl
  · skip
    obtain ⟨T3, X3, e3, st3⟩ := getS2 X0 hx hZ hown (host := "") (Or.inl (hw _ (List.mem_of_getElem? (i := 1) rfl))) Via.refl e0 S_QosMeasure_RESPONSE_TIME (g := (mkF m 11 #[.val (.int p0_0), .val (.int (0 : Int32)), .unset, .unset, .unset] [])) rfl (hb hby at_11)
    obtain ⟨T4, X4, e4, st4⟩ := getS2 X3 hx hZ hown (host := "") (Or.inl (hw _ (List.mem_of_getElem? (i := 4) rfl))) Via.refl e3 S_Objective_RESPONSE_TIME (g := (mkF m 15 #[.val (.int p0_0), .val (.int (0 : Int32)), .val (.ref u_QosMeasure_RESPONSE_TIME), .unset, .unset] [])) rfl (hb hby at_15)
    obtain ⟨_, _, ⟨T5, L5, k5, n5⟩, -, X5, ⟨Lc5, hQ5, l5, y5, z5⟩, st5⟩ := Jvm.LawKit.callS X4 hx (y := (⟨"com/example/leanweave/leanweave/Objective", "seeking", "(Lcom/example/leanweave/leanweave/QosMeasure;)Ljava/util/Optional;"⟩ : MethodName)) hown (mvT hZ (hw _ (List.mem_of_getElem? (i := 7) rfl))) (mvT hZ (hw _ (List.mem_of_getElem? (i := 8) rfl))) (mvT hZ (hw _ (List.mem_of_getElem? (i := 5) rfl))) (mvT hZ (hw _ (List.mem_of_getElem? (i := 9) rfl))) (by decide) (backOf (W := 0) (rm8 l Z a0 hw [] u_QosMeasure_RESPONSE_TIME u_Objective__VALUES u_Objective_SERVICES u_Objective_RESPONSE_TIME u_Objective_THROUGHPUT cl_u_Objective__VALUES.cls h0 n0 Z0 S_Objective__VALUES V_u_Objective__VALUES E_u_Objective__VALUES F_u_Objective_SERVICES_measure F_u_Objective_RESPONSE_TIME_measure) hZ (hw _ (List.mem_of_getElem? (i := 9) rfl)) (hw _ (List.mem_of_getElem? (i := 5) rfl)) (by decide) (by decide)) (g := (mkF m 45 #[.val (.int p0_0), .val (.int (0 : Int32)), .val (.ref u_QosMeasure_RESPONSE_TIME), .val (.ref u_Objective_RESPONSE_TIME), .unset] [(.ref u_QosMeasure_RESPONSE_TIME)])) rfl (by rw [hml]; rfl) (argsL := [(.ref u_QosMeasure_RESPONSE_TIME)]) (rest := []) (lenOf pd_5 rfl) rfl (by show 2 * 0 + _ ≤ _; exact Nat.le_of_eq rfl) (hb hby at_45) (fun _ _ => ⟨rfl, e4, (by decide : 0 + 2 ≤ _), (by decide : 0 + 4 ≤ _)⟩)
    dsimp only [Pt.U, Pt.locs, Pt.cells, Pt.slots] at X5 l5 y5 z5 st5 hQ5
    subst l5 y5 z5
    obtain ⟨b8_5, rfl, N5q, Kc5, ggb8_5, szb8_5, G5_0, G5_1⟩ := hQ5
    have ne6 : u_Optional_EMPTY ≠ b8_5 := Nat.ne_of_lt (Nat.lt_of_lt_of_le E_u_Optional_EMPTY.lt szb8_5)
    have ne7 : u_QosMeasure_RESPONSE_TIME ≠ b8_5 := Nat.ne_of_lt (Nat.lt_of_lt_of_le E_u_QosMeasure_RESPONSE_TIME.lt szb8_5)
    have ne8 : u_Objective_RESPONSE_TIME ≠ b8_5 := Nat.ne_of_lt (Nat.lt_of_lt_of_le E_u_Objective_RESPONSE_TIME.lt szb8_5)
    have ne9 : u_Objective__VALUES ≠ b8_5 := Nat.ne_of_lt (Nat.lt_of_lt_of_le E_u_Objective__VALUES.lt szb8_5)
    have ne10 : u_Objective_SERVICES ≠ b8_5 := Nat.ne_of_lt (Nat.lt_of_lt_of_le E_u_Objective_SERVICES.lt szb8_5)
    have ne11 : u_Objective_THROUGHPUT ≠ b8_5 := Nat.ne_of_lt (Nat.lt_of_lt_of_le E_u_Objective_THROUGHPUT.lt szb8_5)
    have ne12 : u_QosMeasure_COST ≠ b8_5 := Nat.ne_of_lt (Nat.lt_of_lt_of_le E_u_QosMeasure_COST.lt szb8_5)
    have ne13 : u_QosMeasure_THROUGHPUT ≠ b8_5 := Nat.ne_of_lt (Nat.lt_of_lt_of_le E_u_QosMeasure_THROUGHPUT.lt szb8_5)
    have Zs5 : n0 ≤ T5.heap.size := Nat.le_trans Z0 Kc5.1
    have F14 : Sta Z T5.heap "java/util/Optional" "EMPTY" "Ljava/util/Optional;" (.ref u_Optional_EMPTY) := own_stakeep S_Optional_EMPTY Kc5 all0
    have F15 : Exa Z T5.heap u_Optional_EMPTY "java/util/Optional" := E_u_Optional_EMPTY.keep Kc5
    have F16 : Fld Z T5.heap u_Optional_EMPTY "java/util/Optional" "value" "Ljava/lang/Object;" .null := F_u_Optional_EMPTY_value.keep Kc5 nin0
    have F17 : Sta Z T5.heap "com/example/leanweave/leanweave/QosMeasure" "RESPONSE_TIME" "Lcom/example/leanweave/leanweave/QosMeasure;" (.ref u_QosMeasure_RESPONSE_TIME) := own_stakeep S_QosMeasure_RESPONSE_TIME Kc5 all0
    have F18 : Exa Z T5.heap u_QosMeasure_RESPONSE_TIME "com/example/leanweave/leanweave/QosMeasure" := E_u_QosMeasure_RESPONSE_TIME.keep Kc5
    have F19 : Sta Z T5.heap "com/example/leanweave/leanweave/Objective" "RESPONSE_TIME" "Lcom/example/leanweave/leanweave/Objective;" (.ref u_Objective_RESPONSE_TIME) := own_stakeep S_Objective_RESPONSE_TIME Kc5 all0
    have F20 : Exa Z T5.heap u_Objective_RESPONSE_TIME "com/example/leanweave/leanweave/Objective" := E_u_Objective_RESPONSE_TIME.keep Kc5
    have F21 : Sta Z T5.heap "com/example/leanweave/leanweave/Objective" "$VALUES" "[Lcom/example/leanweave/leanweave/Objective;" (.ref u_Objective__VALUES) := own_stakeep S_Objective__VALUES Kc5 all0
    have F22 : Exa Z T5.heap u_Objective__VALUES "[Lcom/example/leanweave/leanweave/Objective;" := E_u_Objective__VALUES.keep Kc5
    have F23 : Sta Z T5.heap "com/example/leanweave/leanweave/Objective" "SERVICES" "Lcom/example/leanweave/leanweave/Objective;" (.ref u_Objective_SERVICES) := own_stakeep S_Objective_SERVICES Kc5 all0
    have F24 : Exa Z T5.heap u_Objective_SERVICES "com/example/leanweave/leanweave/Objective" := E_u_Objective_SERVICES.keep Kc5
    have F25 : Sta Z T5.heap "com/example/leanweave/leanweave/Objective" "THROUGHPUT" "Lcom/example/leanweave/leanweave/Objective;" (.ref u_Objective_THROUGHPUT) := own_stakeep S_Objective_THROUGHPUT Kc5 all0
    have F26 : Exa Z T5.heap u_Objective_THROUGHPUT "com/example/leanweave/leanweave/Objective" := E_u_Objective_THROUGHPUT.keep Kc5
    have F27 : Fld Z T5.heap u_Objective_SERVICES "com/example/leanweave/leanweave/Objective" "measure" "Lcom/example/leanweave/leanweave/QosMeasure;" .null := F_u_Objective_SERVICES_measure.keep Kc5 nin0
    have F28 : Fld Z T5.heap u_Objective_RESPONSE_TIME "com/example/leanweave/leanweave/Objective" "measure" "Lcom/example/leanweave/leanweave/QosMeasure;" (.ref u_QosMeasure_RESPONSE_TIME) := F_u_Objective_RESPONSE_TIME_measure.keep Kc5 nin0
    have F29 : Sta Z T5.heap "com/example/leanweave/leanweave/QosMeasure" "COST" "Lcom/example/leanweave/leanweave/QosMeasure;" (.ref u_QosMeasure_COST) := own_stakeep S_QosMeasure_COST Kc5 all0
    have F30 : Exa Z T5.heap u_QosMeasure_COST "com/example/leanweave/leanweave/QosMeasure" := E_u_QosMeasure_COST.keep Kc5
    have F31 : Fld Z T5.heap u_QosMeasure_RESPONSE_TIME "java/lang/Enum" "ordinal" "I" (.int (0 : Int32)) := F_u_QosMeasure_RESPONSE_TIME_ordinal.keep Kc5 nin0
    have F32 : Fld Z T5.heap u_QosMeasure_COST "java/lang/Enum" "ordinal" "I" (.int (2 : Int32)) := F_u_QosMeasure_COST_ordinal.keep Kc5 nin0
    have F33 : Sta Z T5.heap "com/example/leanweave/leanweave/QosMeasure" "THROUGHPUT" "Lcom/example/leanweave/leanweave/QosMeasure;" (.ref u_QosMeasure_THROUGHPUT) := own_stakeep S_QosMeasure_THROUGHPUT Kc5 all0
    have F34 : Exa Z T5.heap u_QosMeasure_THROUGHPUT "com/example/leanweave/leanweave/QosMeasure" := E_u_QosMeasure_THROUGHPUT.keep Kc5
    have F35 : Fld Z T5.heap u_Objective_THROUGHPUT "com/example/leanweave/leanweave/Objective" "measure" "Lcom/example/leanweave/leanweave/QosMeasure;" (.ref u_QosMeasure_THROUGHPUT) := F_u_Objective_THROUGHPUT_measure.keep Kc5 nin0
    have F36 : Fld Z T5.heap u_QosMeasure_THROUGHPUT "java/lang/Enum" "ordinal" "I" (.int (1 : Int32)) := F_u_QosMeasure_THROUGHPUT_ordinal.keep Kc5 nin0
    have F37 : Arv Z T5.heap u_Objective__VALUES cl_u_Objective__VALUES.cls (.object "com/example/leanweave/leanweave/Objective") (3 : Int32) [(.ref u_Objective_SERVICES), (.ref u_Objective_RESPONSE_TIME), (.ref u_Objective_THROUGHPUT)] .null := V_u_Objective__VALUES.keep Kc5 nin0
    have N5 := Fr.app N0 N5q
    obtain ⟨cq38, kq38, q38a, q38b, q38c⟩ := isOf hZ rfl G5_0
    obtain ⟨_, _, ⟨T38, L38, k38, n38⟩, -, X38, ⟨Lc38, hQ38, l38, y38, z38⟩, st38⟩ := X5.virtualBack hx (y := (⟨"java/util/Optional", "orElse", "(Ljava/lang/Object;)Ljava/lang/Object;"⟩ : MethodName)) (z := (⟨"java/util/Optional", "orElse", "(Ljava/lang/Object;)Ljava/lang/Object;"⟩ : MethodName)) hown (mvT hZ (hw _ (List.mem_of_getElem? (i := 48) rfl))) (mvT hZ (hw _ (List.mem_of_getElem? (i := 49) rfl))) (notFace_of_selects (args := #[]) (mvT hZ (hw _ (List.mem_of_getElem? (i := 51) rfl)))) (mvT hZ (hw _ (List.mem_of_getElem? (i := 51) rfl))) (mvT hZ (hw _ (List.mem_of_getElem? (i := 50) rfl))) (by decide) (backOf (W := 0) (rm6 l Z a0 hw [] b8_5 u_Objective_RESPONSE_TIME T5.heap n0 Zs5 G5_1) hZ (hw _ (List.mem_of_getElem? (i := 52) rfl)) (hw _ (List.mem_of_getElem? (i := 31) rfl)) (by decide) (by decide)) q38a q38c (g := (mkF m 49 #[.val (.int p0_0), .val (.int (0 : Int32)), .val (.ref u_QosMeasure_RESPONSE_TIME), .val (.ref u_Objective_RESPONSE_TIME), .unset] [.null, (.ref b8_5)])) rfl (by rw [hml]; rfl) (Steps.refl _) (argsL := [.null]) (rest := []) (lenOf pd_0 rfl) rfl (by show 2 * 0 + _ ≤ _; exact Nat.le_of_eq rfl) (hb hby at_49) (fun _ _ => ⟨rfl, rfl, (by decide : 2 + 0 ≤ _), (by decide : 4 + 0 ≤ _)⟩)
    dsimp only [Pt.U, Pt.locs, Pt.cells, Pt.slots] at X38 l38 y38 z38 st38 hQ38
    subst l38 y38 z38
    obtain ⟨rfl, N38q, eh38⟩ := hQ38
    have N38 := Fr.app N5 N38q
    obtain ⟨T39, X39, e39, st39⟩ := castY X38 hx hZ hown (hw _ (List.mem_of_getElem? (i := 53) rfl)) eh38 (Ins.self F20) (g := (mkF m 52 #[.val (.int p0_0), .val (.int (0 : Int32)), .val (.ref u_QosMeasure_RESPONSE_TIME), .val (.ref u_Objective_RESPONSE_TIME), .unset] [(.ref u_Objective_RESPONSE_TIME)])) rfl rfl (hb hby at_52)
    have k40 : ∀ t, Steps p.tables e below (T39.setTop (mkF m 68 #[.val (.int p0_0), .val (.int (0 : Int32)), .val (.ref u_QosMeasure_RESPONSE_TIME), .val (.ref u_Objective_RESPONSE_TIME), .val (.ref u_Objective_RESPONSE_TIME)] [(.int (1 : Int32))])) t → Steps p.tables e below (s₁.setTop (entryFrame m #[(.int p0_0)] maxLocals)) t := by
      intro t k
      refine k1 t ?_
      show Steps p.tables e below (s₁.setTop (mkF m 7 #[.val (.int p0_0), .val (.int (0 : Int32)), .unset, .unset, .unset] [])) _
      refine XS.iloadN X0.here hx rfl (hb hby at_7) rfl ?_
      show Steps p.tables e below (s₁.setTop (mkF m 8 #[.val (.int p0_0), .val (.int (0 : Int32)), .unset, .unset, .unset] [(.int (0 : Int32))])) _
      refine XS.ifNo X0.here hx rfl (hb hby at_8) rfl ((if0 _ _).trans (teq (by decide : (0 : Int32) = (0 : Int32))).2) ?_
      show Steps p.tables e below (s₁.setTop (mkF m 11 #[.val (.int p0_0), .val (.int (0 : Int32)), .unset, .unset, .unset] [])) _
      refine st3 _ ?_
      show Steps p.tables e below (T3.setTop (mkF m 14 #[.val (.int p0_0), .val (.int (0 : Int32)), .unset, .unset, .unset] [(.ref u_QosMeasure_RESPONSE_TIME)])) _
      refine XS.astoreN X3.here hx rfl (hb hby at_14) rfl rfl (l' := #[.val (.int p0_0), .val (.int (0 : Int32)), .val (.ref u_QosMeasure_RESPONSE_TIME), .unset, .unset]) rfl ?_
      show Steps p.tables e below (T3.setTop (mkF m 15 #[.val (.int p0_0), .val (.int (0 : Int32)), .val (.ref u_QosMeasure_RESPONSE_TIME), .unset, .unset] [])) _
      refine st4 _ ?_
      show Steps p.tables e below (T4.setTop (mkF m 18 #[.val (.int p0_0), .val (.int (0 : Int32)), .val (.ref u_QosMeasure_RESPONSE_TIME), .unset, .unset] [(.ref u_Objective_RESPONSE_TIME)])) _
      refine XS.astoreN X4.here hx rfl (hb hby at_18) rfl rfl (l' := #[.val (.int p0_0), .val (.int (0 : Int32)), .val (.ref u_QosMeasure_RESPONSE_TIME), .val (.ref u_Objective_RESPONSE_TIME), .unset]) rfl ?_
      show Steps p.tables e below (T4.setTop (mkF m 19 #[.val (.int p0_0), .val (.int (0 : Int32)), .val (.ref u_QosMeasure_RESPONSE_TIME), .val (.ref u_Objective_RESPONSE_TIME), .unset] [])) _
      refine XS.goto X4.here hx rfl (pc0 := 19) (pc' := 44) rfl (hb hby at_19) (by decide) (by decide) ?_
      show Steps p.tables e below (T4.setTop (mkF m 44 #[.val (.int p0_0), .val (.int (0 : Int32)), .val (.ref u_QosMeasure_RESPONSE_TIME), .val (.ref u_Objective_RESPONSE_TIME), .unset] [])) _
      refine XS.aloadN X4.here hx rfl (hb hby at_44) rfl rfl ?_
      show Steps p.tables e below (T4.setTop (mkF m 45 #[.val (.int p0_0), .val (.int (0 : Int32)), .val (.ref u_QosMeasure_RESPONSE_TIME), .val (.ref u_Objective_RESPONSE_TIME), .unset] [(.ref u_QosMeasure_RESPONSE_TIME)])) _
      refine st5 _ ?_
      show Steps p.tables e below (T5.setTop (mkF m 48 #[.val (.int p0_0), .val (.int (0 : Int32)), .val (.ref u_QosMeasure_RESPONSE_TIME), .val (.ref u_Objective_RESPONSE_TIME), .unset] [(.ref b8_5)])) _
      refine XS.aconstNull X5.here hx rfl (hb hby at_48) ?_
      show Steps p.tables e below (T5.setTop (mkF m 49 #[.val (.int p0_0), .val (.int (0 : Int32)), .val (.ref u_QosMeasure_RESPONSE_TIME), .val (.ref u_Objective_RESPONSE_TIME), .unset] [.null, (.ref b8_5)])) _
      refine st38.trans ?_
      show Steps p.tables e below (T38.setTop (mkF m 52 #[.val (.int p0_0), .val (.int (0 : Int32)), .val (.ref u_QosMeasure_RESPONSE_TIME), .val (.ref u_Objective_RESPONSE_TIME), .unset] [(.ref u_Objective_RESPONSE_TIME)])) _
      refine st39 _ ?_
      show Steps p.tables e below (T39.setTop (mkF m 55 #[.val (.int p0_0), .val (.int (0 : Int32)), .val (.ref u_QosMeasure_RESPONSE_TIME), .val (.ref u_Objective_RESPONSE_TIME), .unset] [(.ref u_Objective_RESPONSE_TIME)])) _
      refine XS.astore X39.here hx rfl (hb hby at_55) rfl rfl (l' := #[.val (.int p0_0), .val (.int (0 : Int32)), .val (.ref u_QosMeasure_RESPONSE_TIME), .val (.ref u_Objective_RESPONSE_TIME), .val (.ref u_Objective_RESPONSE_TIME)]) rfl ?_
      show Steps p.tables e below (T39.setTop (mkF m 57 #[.val (.int p0_0), .val (.int (0 : Int32)), .val (.ref u_QosMeasure_RESPONSE_TIME), .val (.ref u_Objective_RESPONSE_TIME), .val (.ref u_Objective_RESPONSE_TIME)] [])) _
      refine XS.aload X39.here hx rfl (hb hby at_57) rfl rfl ?_
      show Steps p.tables e below (T39.setTop (mkF m 59 #[.val (.int p0_0), .val (.int (0 : Int32)), .val (.ref u_QosMeasure_RESPONSE_TIME), .val (.ref u_Objective_RESPONSE_TIME), .val (.ref u_Objective_RESPONSE_TIME)] [(.ref u_Objective_RESPONSE_TIME)])) _
      refine XS.aloadN X39.here hx rfl (hb hby at_59) rfl rfl ?_
      show Steps p.tables e below (T39.setTop (mkF m 60 #[.val (.int p0_0), .val (.int (0 : Int32)), .val (.ref u_QosMeasure_RESPONSE_TIME), .val (.ref u_Objective_RESPONSE_TIME), .val (.ref u_Objective_RESPONSE_TIME)] [(.ref u_Objective_RESPONSE_TIME), (.ref u_Objective_RESPONSE_TIME)])) _
      refine Jvm.RoadKit.acmp (g := (mkF m 60 #[.val (.int p0_0), .val (.int (0 : Int32)), .val (.ref u_QosMeasure_RESPONSE_TIME), .val (.ref u_Objective_RESPONSE_TIME), .val (.ref u_Objective_RESPONSE_TIME)] [(.ref u_Objective_RESPONSE_TIME), (.ref u_Objective_RESPONSE_TIME)])) X39 hx rfl rfl rfl (pc0 := 60) (pc' := 63) (same := true) rfl (hb hby at_60) rfl (decide_eq_true rfl) (by decide) (by decide) ?_
      show Steps p.tables e below (T39.setTop (mkF m 63 #[.val (.int p0_0), .val (.int (0 : Int32)), .val (.ref u_QosMeasure_RESPONSE_TIME), .val (.ref u_Objective_RESPONSE_TIME), .val (.ref u_Objective_RESPONSE_TIME)] [])) _
      refine XS.iconst X39.here hx rfl (hb hby at_63) ?_
      show Steps p.tables e below (T39.setTop (mkF m 64 #[.val (.int p0_0), .val (.int (0 : Int32)), .val (.ref u_QosMeasure_RESPONSE_TIME), .val (.ref u_Objective_RESPONSE_TIME), .val (.ref u_Objective_RESPONSE_TIME)] [(.int (1 : Int32))])) _
      refine XS.goto X39.here hx rfl (pc0 := 64) (pc' := 68) rfl (hb hby at_64) (by decide) (by decide) ?_
      exact k
    obtain ⟨fs, hr, hrun, hended, hW, hsame⟩ := X39.leave (v := some (.int (1 : Int32))) (fun h => by rw [Bd.returns] at h; cases h)
    refine ⟨_, _, k40 _ ?_, hrun, hended, _, _, rfl, ?_, ⟨_, rfl⟩, hW, hsame.mono (by decide) (by decide)⟩
    · exact retN X39 hx (t := .boolean) Bd.returns (by simp) (hb hby at_68) hr
    · show Q0 Z p0_0 u_Optional_EMPTY u_QosMeasure_RESPONSE_TIME u_Objective_RESPONSE_TIME u_Objective__VALUES cl_u_Objective__VALUES u_Objective_SERVICES u_Objective_THROUGHPUT u_QosMeasure_COST u_QosMeasure_THROUGHPUT h0 n0 _ T39.heap _
      rw [e39]
      exact ⟨rfl, N38⟩
  · skip
    obtain ⟨T41, X41, e41, st41⟩ := getS2 X0 hx hZ hown (host := "") (Or.inl (hw _ (List.mem_of_getElem? (i := 62) rfl))) Via.refl e0 S_QosMeasure_THROUGHPUT (g := (mkF m 27 #[.val (.int p0_0), .val (.int (1 : Int32)), .unset, .unset, .unset] [])) rfl (hb hby at_27)
    obtain ⟨T42, X42, e42, st42⟩ := getS2 X41 hx hZ hown (host := "") (Or.inl (hw _ (List.mem_of_getElem? (i := 63) rfl))) Via.refl e41 S_Objective_THROUGHPUT (g := (mkF m 31 #[.val (.int p0_0), .val (.int (1 : Int32)), .val (.ref u_QosMeasure_THROUGHPUT), .unset, .unset] [])) rfl (hb hby at_31)
    obtain ⟨_, _, ⟨T43, L43, k43, n43⟩, -, X43, ⟨Lc43, hQ43, l43, y43, z43⟩, st43⟩ := Jvm.LawKit.callS X42 hx (y := (⟨"com/example/leanweave/leanweave/Objective", "seeking", "(Lcom/example/leanweave/leanweave/QosMeasure;)Ljava/util/Optional;"⟩ : MethodName)) hown (mvT hZ (hw _ (List.mem_of_getElem? (i := 7) rfl))) (mvT hZ (hw _ (List.mem_of_getElem? (i := 8) rfl))) (mvT hZ (hw _ (List.mem_of_getElem? (i := 5) rfl))) (mvT hZ (hw _ (List.mem_of_getElem? (i := 9) rfl))) (by decide) (backOf (W := 0) (rm9 l Z a0 hw [] u_QosMeasure_THROUGHPUT u_Objective__VALUES u_Objective_SERVICES u_Objective_RESPONSE_TIME u_Objective_THROUGHPUT cl_u_Objective__VALUES.cls u_QosMeasure_RESPONSE_TIME h0 n0 Z0 S_Objective__VALUES V_u_Objective__VALUES E_u_Objective__VALUES F_u_Objective_SERVICES_measure F_u_Objective_RESPONSE_TIME_measure F_u_Objective_THROUGHPUT_measure ne_u_QosMeasure_RESPONSE_TIME_u_QosMeasure_THROUGHPUT) hZ (hw _ (List.mem_of_getElem? (i := 9) rfl)) (hw _ (List.mem_of_getElem? (i := 5) rfl)) (by decide) (by decide)) (g := (mkF m 45 #[.val (.int p0_0), .val (.int (1 : Int32)), .val (.ref u_QosMeasure_THROUGHPUT), .val (.ref u_Objective_THROUGHPUT), .unset] [(.ref u_QosMeasure_THROUGHPUT)])) rfl (by rw [hml]; rfl) (argsL := [(.ref u_QosMeasure_THROUGHPUT)]) (rest := []) (lenOf pd_5 rfl) rfl (by show 2 * 0 + _ ≤ _; exact Nat.le_of_eq rfl) (hb hby at_45) (fun _ _ => ⟨rfl, e42, (by decide : 0 + 2 ≤ _), (by decide : 0 + 4 ≤ _)⟩)
    dsimp only [Pt.U, Pt.locs, Pt.cells, Pt.slots] at X43 l43 y43 z43 st43 hQ43
    subst l43 y43 z43
    obtain ⟨b9_43, rfl, N43q, Kc43, ggb9_43, szb9_43, G43_0, G43_1⟩ := hQ43
    have ne44 : u_Optional_EMPTY ≠ b9_43 := Nat.ne_of_lt (Nat.lt_of_lt_of_le E_u_Optional_EMPTY.lt szb9_43)
    have ne45 : u_QosMeasure_RESPONSE_TIME ≠ b9_43 := Nat.ne_of_lt (Nat.lt_of_lt_of_le E_u_QosMeasure_RESPONSE_TIME.lt szb9_43)
    have ne46 : u_Objective_RESPONSE_TIME ≠ b9_43 := Nat.ne_of_lt (Nat.lt_of_lt_of_le E_u_Objective_RESPONSE_TIME.lt szb9_43)
    have ne47 : u_Objective__VALUES ≠ b9_43 := Nat.ne_of_lt (Nat.lt_of_lt_of_le E_u_Objective__VALUES.lt szb9_43)
    have ne48 : u_Objective_SERVICES ≠ b9_43 := Nat.ne_of_lt (Nat.lt_of_lt_of_le E_u_Objective_SERVICES.lt szb9_43)
    have ne49 : u_Objective_THROUGHPUT ≠ b9_43 := Nat.ne_of_lt (Nat.lt_of_lt_of_le E_u_Objective_THROUGHPUT.lt szb9_43)
    have ne50 : u_QosMeasure_COST ≠ b9_43 := Nat.ne_of_lt (Nat.lt_of_lt_of_le E_u_QosMeasure_COST.lt szb9_43)
    have ne51 : u_QosMeasure_THROUGHPUT ≠ b9_43 := Nat.ne_of_lt (Nat.lt_of_lt_of_le E_u_QosMeasure_THROUGHPUT.lt szb9_43)
    have Zs43 : n0 ≤ T43.heap.size := Nat.le_trans Z0 Kc43.1
    have F52 : Sta Z T43.heap "java/util/Optional" "EMPTY" "Ljava/util/Optional;" (.ref u_Optional_EMPTY) := own_stakeep S_Optional_EMPTY Kc43 all0
    have F53 : Exa Z T43.heap u_Optional_EMPTY "java/util/Optional" := E_u_Optional_EMPTY.keep Kc43
    have F54 : Fld Z T43.heap u_Optional_EMPTY "java/util/Optional" "value" "Ljava/lang/Object;" .null := F_u_Optional_EMPTY_value.keep Kc43 nin0
    have F55 : Sta Z T43.heap "com/example/leanweave/leanweave/QosMeasure" "RESPONSE_TIME" "Lcom/example/leanweave/leanweave/QosMeasure;" (.ref u_QosMeasure_RESPONSE_TIME) := own_stakeep S_QosMeasure_RESPONSE_TIME Kc43 all0
    have F56 : Exa Z T43.heap u_QosMeasure_RESPONSE_TIME "com/example/leanweave/leanweave/QosMeasure" := E_u_QosMeasure_RESPONSE_TIME.keep Kc43
    have F57 : Sta Z T43.heap "com/example/leanweave/leanweave/Objective" "RESPONSE_TIME" "Lcom/example/leanweave/leanweave/Objective;" (.ref u_Objective_RESPONSE_TIME) := own_stakeep S_Objective_RESPONSE_TIME Kc43 all0
    have F58 : Exa Z T43.heap u_Objective_RESPONSE_TIME "com/example/leanweave/leanweave/Objective" := E_u_Objective_RESPONSE_TIME.keep Kc43
    have F59 : Sta Z T43.heap "com/example/leanweave/leanweave/Objective" "$VALUES" "[Lcom/example/leanweave/leanweave/Objective;" (.ref u_Objective__VALUES) := own_stakeep S_Objective__VALUES Kc43 all0
    have F60 : Exa Z T43.heap u_Objective__VALUES "[Lcom/example/leanweave/leanweave/Objective;" := E_u_Objective__VALUES.keep Kc43
    have F61 : Sta Z T43.heap "com/example/leanweave/leanweave/Objective" "SERVICES" "Lcom/example/leanweave/leanweave/Objective;" (.ref u_Objective_SERVICES) := own_stakeep S_Objective_SERVICES Kc43 all0
    have F62 : Exa Z T43.heap u_Objective_SERVICES "com/example/leanweave/leanweave/Objective" := E_u_Objective_SERVICES.keep Kc43
    have F63 : Sta Z T43.heap "com/example/leanweave/leanweave/Objective" "THROUGHPUT" "Lcom/example/leanweave/leanweave/Objective;" (.ref u_Objective_THROUGHPUT) := own_stakeep S_Objective_THROUGHPUT Kc43 all0
    have F64 : Exa Z T43.heap u_Objective_THROUGHPUT "com/example/leanweave/leanweave/Objective" := E_u_Objective_THROUGHPUT.keep Kc43
    have F65 : Fld Z T43.heap u_Objective_SERVICES "com/example/leanweave/leanweave/Objective" "measure" "Lcom/example/leanweave/leanweave/QosMeasure;" .null := F_u_Objective_SERVICES_measure.keep Kc43 nin0
    have F66 : Fld Z T43.heap u_Objective_RESPONSE_TIME "com/example/leanweave/leanweave/Objective" "measure" "Lcom/example/leanweave/leanweave/QosMeasure;" (.ref u_QosMeasure_RESPONSE_TIME) := F_u_Objective_RESPONSE_TIME_measure.keep Kc43 nin0
    have F67 : Sta Z T43.heap "com/example/leanweave/leanweave/QosMeasure" "COST" "Lcom/example/leanweave/leanweave/QosMeasure;" (.ref u_QosMeasure_COST) := own_stakeep S_QosMeasure_COST Kc43 all0
    have F68 : Exa Z T43.heap u_QosMeasure_COST "com/example/leanweave/leanweave/QosMeasure" := E_u_QosMeasure_COST.keep Kc43
    have F69 : Fld Z T43.heap u_QosMeasure_RESPONSE_TIME "java/lang/Enum" "ordinal" "I" (.int (0 : Int32)) := F_u_QosMeasure_RESPONSE_TIME_ordinal.keep Kc43 nin0
    have F70 : Fld Z T43.heap u_QosMeasure_COST "java/lang/Enum" "ordinal" "I" (.int (2 : Int32)) := F_u_QosMeasure_COST_ordinal.keep Kc43 nin0
    have F71 : Sta Z T43.heap "com/example/leanweave/leanweave/QosMeasure" "THROUGHPUT" "Lcom/example/leanweave/leanweave/QosMeasure;" (.ref u_QosMeasure_THROUGHPUT) := own_stakeep S_QosMeasure_THROUGHPUT Kc43 all0
    have F72 : Exa Z T43.heap u_QosMeasure_THROUGHPUT "com/example/leanweave/leanweave/QosMeasure" := E_u_QosMeasure_THROUGHPUT.keep Kc43
    have F73 : Fld Z T43.heap u_Objective_THROUGHPUT "com/example/leanweave/leanweave/Objective" "measure" "Lcom/example/leanweave/leanweave/QosMeasure;" (.ref u_QosMeasure_THROUGHPUT) := F_u_Objective_THROUGHPUT_measure.keep Kc43 nin0
    have F74 : Fld Z T43.heap u_QosMeasure_THROUGHPUT "java/lang/Enum" "ordinal" "I" (.int (1 : Int32)) := F_u_QosMeasure_THROUGHPUT_ordinal.keep Kc43 nin0
    have F75 : Arv Z T43.heap u_Objective__VALUES cl_u_Objective__VALUES.cls (.object "com/example/leanweave/leanweave/Objective") (3 : Int32) [(.ref u_Objective_SERVICES), (.ref u_Objective_RESPONSE_TIME), (.ref u_Objective_THROUGHPUT)] .null := V_u_Objective__VALUES.keep Kc43 nin0
    have N43 := Fr.app N0 N43q
    obtain ⟨cq76, kq76, q76a, q76b, q76c⟩ := isOf hZ rfl G43_0
    obtain ⟨_, _, ⟨T76, L76, k76, n76⟩, -, X76, ⟨Lc76, hQ76, l76, y76, z76⟩, st76⟩ := X43.virtualBack hx (y := (⟨"java/util/Optional", "orElse", "(Ljava/lang/Object;)Ljava/lang/Object;"⟩ : MethodName)) (z := (⟨"java/util/Optional", "orElse", "(Ljava/lang/Object;)Ljava/lang/Object;"⟩ : MethodName)) hown (mvT hZ (hw _ (List.mem_of_getElem? (i := 48) rfl))) (mvT hZ (hw _ (List.mem_of_getElem? (i := 49) rfl))) (notFace_of_selects (args := #[]) (mvT hZ (hw _ (List.mem_of_getElem? (i := 51) rfl)))) (mvT hZ (hw _ (List.mem_of_getElem? (i := 51) rfl))) (mvT hZ (hw _ (List.mem_of_getElem? (i := 50) rfl))) (by decide) (backOf (W := 0) (rm6 l Z a0 hw [] b9_43 u_Objective_THROUGHPUT T43.heap n0 Zs43 G43_1) hZ (hw _ (List.mem_of_getElem? (i := 52) rfl)) (hw _ (List.mem_of_getElem? (i := 31) rfl)) (by decide) (by decide)) q76a q76c (g := (mkF m 49 #[.val (.int p0_0), .val (.int (1 : Int32)), .val (.ref u_QosMeasure_THROUGHPUT), .val (.ref u_Objective_THROUGHPUT), .unset] [.null, (.ref b9_43)])) rfl (by rw [hml]; rfl) (Steps.refl _) (argsL := [.null]) (rest := []) (lenOf pd_0 rfl) rfl (by show 2 * 0 + _ ≤ _; exact Nat.le_of_eq rfl) (hb hby at_49) (fun _ _ => ⟨rfl, rfl, (by decide : 2 + 0 ≤ _), (by decide : 4 + 0 ≤ _)⟩)
    dsimp only [Pt.U, Pt.locs, Pt.cells, Pt.slots] at X76 l76 y76 z76 st76 hQ76
    subst l76 y76 z76
    obtain ⟨rfl, N76q, eh76⟩ := hQ76
    have N76 := Fr.app N43 N76q
    obtain ⟨T77, X77, e77, st77⟩ := castY X76 hx hZ hown (hw _ (List.mem_of_getElem? (i := 53) rfl)) eh76 (Ins.self F64) (g := (mkF m 52 #[.val (.int p0_0), .val (.int (1 : Int32)), .val (.ref u_QosMeasure_THROUGHPUT), .val (.ref u_Objective_THROUGHPUT), .unset] [(.ref u_Objective_THROUGHPUT)])) rfl rfl (hb hby at_52)
    have k78 : ∀ t, Steps p.tables e below (T77.setTop (mkF m 68 #[.val (.int p0_0), .val (.int (1 : Int32)), .val (.ref u_QosMeasure_THROUGHPUT), .val (.ref u_Objective_THROUGHPUT), .val (.ref u_Objective_THROUGHPUT)] [(.int (1 : Int32))])) t → Steps p.tables e below (s₁.setTop (entryFrame m #[(.int p0_0)] maxLocals)) t := by
      intro t k
      refine k1 t ?_
      show Steps p.tables e below (s₁.setTop (mkF m 7 #[.val (.int p0_0), .val (.int (1 : Int32)), .unset, .unset, .unset] [])) _
      refine XS.iloadN X0.here hx rfl (hb hby at_7) rfl ?_
      show Steps p.tables e below (s₁.setTop (mkF m 8 #[.val (.int p0_0), .val (.int (1 : Int32)), .unset, .unset, .unset] [(.int (1 : Int32))])) _
      refine XS.ifYes X0.here hx rfl (pc0 := 8) (pc' := 22) rfl (hb hby at_8) rfl ((if0 _ _).trans (feq (by decide : ¬ ((1 : Int32) = (0 : Int32)))).2) (by decide) (by decide) ?_
      show Steps p.tables e below (s₁.setTop (mkF m 22 #[.val (.int p0_0), .val (.int (1 : Int32)), .unset, .unset, .unset] [])) _
      refine XS.iloadN X0.here hx rfl (hb hby at_22) rfl ?_
      show Steps p.tables e below (s₁.setTop (mkF m 23 #[.val (.int p0_0), .val (.int (1 : Int32)), .unset, .unset, .unset] [(.int (1 : Int32))])) _
      refine XS.iconst X0.here hx rfl (hb hby at_23) ?_
      show Steps p.tables e below (s₁.setTop (mkF m 24 #[.val (.int p0_0), .val (.int (1 : Int32)), .unset, .unset, .unset] [(.int (1 : Int32)), (.int (1 : Int32))])) _
      refine XS.icmpNo X0.here hx rfl (hb hby at_24) rfl (teq (by decide : (1 : Int32) = (1 : Int32))).2 ?_
      show Steps p.tables e below (s₁.setTop (mkF m 27 #[.val (.int p0_0), .val (.int (1 : Int32)), .unset, .unset, .unset] [])) _
      refine st41 _ ?_
      show Steps p.tables e below (T41.setTop (mkF m 30 #[.val (.int p0_0), .val (.int (1 : Int32)), .unset, .unset, .unset] [(.ref u_QosMeasure_THROUGHPUT)])) _
      refine XS.astoreN X41.here hx rfl (hb hby at_30) rfl rfl (l' := #[.val (.int p0_0), .val (.int (1 : Int32)), .val (.ref u_QosMeasure_THROUGHPUT), .unset, .unset]) rfl ?_
      show Steps p.tables e below (T41.setTop (mkF m 31 #[.val (.int p0_0), .val (.int (1 : Int32)), .val (.ref u_QosMeasure_THROUGHPUT), .unset, .unset] [])) _
      refine st42 _ ?_
      show Steps p.tables e below (T42.setTop (mkF m 34 #[.val (.int p0_0), .val (.int (1 : Int32)), .val (.ref u_QosMeasure_THROUGHPUT), .unset, .unset] [(.ref u_Objective_THROUGHPUT)])) _
      refine XS.astoreN X42.here hx rfl (hb hby at_34) rfl rfl (l' := #[.val (.int p0_0), .val (.int (1 : Int32)), .val (.ref u_QosMeasure_THROUGHPUT), .val (.ref u_Objective_THROUGHPUT), .unset]) rfl ?_
      show Steps p.tables e below (T42.setTop (mkF m 35 #[.val (.int p0_0), .val (.int (1 : Int32)), .val (.ref u_QosMeasure_THROUGHPUT), .val (.ref u_Objective_THROUGHPUT), .unset] [])) _
      refine XS.goto X42.here hx rfl (pc0 := 35) (pc' := 44) rfl (hb hby at_35) (by decide) (by decide) ?_
      show Steps p.tables e below (T42.setTop (mkF m 44 #[.val (.int p0_0), .val (.int (1 : Int32)), .val (.ref u_QosMeasure_THROUGHPUT), .val (.ref u_Objective_THROUGHPUT), .unset] [])) _
      refine XS.aloadN X42.here hx rfl (hb hby at_44) rfl rfl ?_
      show Steps p.tables e below (T42.setTop (mkF m 45 #[.val (.int p0_0), .val (.int (1 : Int32)), .val (.ref u_QosMeasure_THROUGHPUT), .val (.ref u_Objective_THROUGHPUT), .unset] [(.ref u_QosMeasure_THROUGHPUT)])) _
      refine st43 _ ?_
      show Steps p.tables e below (T43.setTop (mkF m 48 #[.val (.int p0_0), .val (.int (1 : Int32)), .val (.ref u_QosMeasure_THROUGHPUT), .val (.ref u_Objective_THROUGHPUT), .unset] [(.ref b9_43)])) _
      refine XS.aconstNull X43.here hx rfl (hb hby at_48) ?_
      show Steps p.tables e below (T43.setTop (mkF m 49 #[.val (.int p0_0), .val (.int (1 : Int32)), .val (.ref u_QosMeasure_THROUGHPUT), .val (.ref u_Objective_THROUGHPUT), .unset] [.null, (.ref b9_43)])) _
      refine st76.trans ?_
      show Steps p.tables e below (T76.setTop (mkF m 52 #[.val (.int p0_0), .val (.int (1 : Int32)), .val (.ref u_QosMeasure_THROUGHPUT), .val (.ref u_Objective_THROUGHPUT), .unset] [(.ref u_Objective_THROUGHPUT)])) _
      refine st77 _ ?_
      show Steps p.tables e below (T77.setTop (mkF m 55 #[.val (.int p0_0), .val (.int (1 : Int32)), .val (.ref u_QosMeasure_THROUGHPUT), .val (.ref u_Objective_THROUGHPUT), .unset] [(.ref u_Objective_THROUGHPUT)])) _
      refine XS.astore X77.here hx rfl (hb hby at_55) rfl rfl (l' := #[.val (.int p0_0), .val (.int (1 : Int32)), .val (.ref u_QosMeasure_THROUGHPUT), .val (.ref u_Objective_THROUGHPUT), .val (.ref u_Objective_THROUGHPUT)]) rfl ?_
      show Steps p.tables e below (T77.setTop (mkF m 57 #[.val (.int p0_0), .val (.int (1 : Int32)), .val (.ref u_QosMeasure_THROUGHPUT), .val (.ref u_Objective_THROUGHPUT), .val (.ref u_Objective_THROUGHPUT)] [])) _
      refine XS.aload X77.here hx rfl (hb hby at_57) rfl rfl ?_
      show Steps p.tables e below (T77.setTop (mkF m 59 #[.val (.int p0_0), .val (.int (1 : Int32)), .val (.ref u_QosMeasure_THROUGHPUT), .val (.ref u_Objective_THROUGHPUT), .val (.ref u_Objective_THROUGHPUT)] [(.ref u_Objective_THROUGHPUT)])) _
      refine XS.aloadN X77.here hx rfl (hb hby at_59) rfl rfl ?_
      show Steps p.tables e below (T77.setTop (mkF m 60 #[.val (.int p0_0), .val (.int (1 : Int32)), .val (.ref u_QosMeasure_THROUGHPUT), .val (.ref u_Objective_THROUGHPUT), .val (.ref u_Objective_THROUGHPUT)] [(.ref u_Objective_THROUGHPUT), (.ref u_Objective_THROUGHPUT)])) _
      refine Jvm.RoadKit.acmp (g := (mkF m 60 #[.val (.int p0_0), .val (.int (1 : Int32)), .val (.ref u_QosMeasure_THROUGHPUT), .val (.ref u_Objective_THROUGHPUT), .val (.ref u_Objective_THROUGHPUT)] [(.ref u_Objective_THROUGHPUT), (.ref u_Objective_THROUGHPUT)])) X77 hx rfl rfl rfl (pc0 := 60) (pc' := 63) (same := true) rfl (hb hby at_60) rfl (decide_eq_true rfl) (by decide) (by decide) ?_
      show Steps p.tables e below (T77.setTop (mkF m 63 #[.val (.int p0_0), .val (.int (1 : Int32)), .val (.ref u_QosMeasure_THROUGHPUT), .val (.ref u_Objective_THROUGHPUT), .val (.ref u_Objective_THROUGHPUT)] [])) _
      refine XS.iconst X77.here hx rfl (hb hby at_63) ?_
      show Steps p.tables e below (T77.setTop (mkF m 64 #[.val (.int p0_0), .val (.int (1 : Int32)), .val (.ref u_QosMeasure_THROUGHPUT), .val (.ref u_Objective_THROUGHPUT), .val (.ref u_Objective_THROUGHPUT)] [(.int (1 : Int32))])) _
      refine XS.goto X77.here hx rfl (pc0 := 64) (pc' := 68) rfl (hb hby at_64) (by decide) (by decide) ?_
      exact k
    obtain ⟨fs, hr, hrun, hended, hW, hsame⟩ := X77.leave (v := some (.int (1 : Int32))) (fun h => by rw [Bd.returns] at h; cases h)
    refine ⟨_, _, k78 _ ?_, hrun, hended, _, _, rfl, ?_, ⟨_, rfl⟩, hW, hsame.mono (by decide) (by decide)⟩
    · exact retN X77 hx (t := .boolean) Bd.returns (by simp) (hb hby at_68) hr
    · show Q0 Z p0_0 u_Optional_EMPTY u_QosMeasure_RESPONSE_TIME u_Objective_RESPONSE_TIME u_Objective__VALUES cl_u_Objective__VALUES u_Objective_SERVICES u_Objective_THROUGHPUT u_QosMeasure_COST u_QosMeasure_THROUGHPUT h0 n0 _ T77.heap _
      rw [e77]
      exact ⟨rfl, N76⟩
  · skip
    obtain ⟨T79, X79, e79, st79⟩ := getS2 X0 hx hZ hown (host := "") (Or.inl (hw _ (List.mem_of_getElem? (i := 55) rfl))) Via.refl e0 S_QosMeasure_COST (g := (mkF m 38 #[.val (.int p0_0), .val (.int (2 : Int32)), .unset, .unset, .unset] [])) rfl (hb hby at_38)
    obtain ⟨_, _, ⟨T80, L80, k80, n80⟩, -, X80, ⟨Lc80, hQ80, l80, y80, z80⟩, st80⟩ := Jvm.LawKit.callS X79 hx (y := (⟨"com/example/leanweave/leanweave/Objective", "seeking", "(Lcom/example/leanweave/leanweave/QosMeasure;)Ljava/util/Optional;"⟩ : MethodName)) hown (mvT hZ (hw _ (List.mem_of_getElem? (i := 7) rfl))) (mvT hZ (hw _ (List.mem_of_getElem? (i := 8) rfl))) (mvT hZ (hw _ (List.mem_of_getElem? (i := 5) rfl))) (mvT hZ (hw _ (List.mem_of_getElem? (i := 9) rfl))) (by decide) (backOf (W := 0) (rm10 l Z a0 hw [] u_QosMeasure_COST u_Objective__VALUES u_Objective_SERVICES u_Objective_RESPONSE_TIME u_Objective_THROUGHPUT cl_u_Objective__VALUES.cls u_QosMeasure_RESPONSE_TIME u_QosMeasure_THROUGHPUT u_Optional_EMPTY h0 n0 Z0 S_Objective__VALUES V_u_Objective__VALUES E_u_Objective__VALUES F_u_Objective_SERVICES_measure F_u_Objective_RESPONSE_TIME_measure F_u_Objective_THROUGHPUT_measure S_Optional_EMPTY ne_u_QosMeasure_RESPONSE_TIME_u_QosMeasure_COST ne_u_QosMeasure_THROUGHPUT_u_QosMeasure_COST) hZ (hw _ (List.mem_of_getElem? (i := 9) rfl)) (hw _ (List.mem_of_getElem? (i := 5) rfl)) (by decide) (by decide)) (g := (mkF m 45 #[.val (.int p0_0), .val (.int (2 : Int32)), .val (.ref u_QosMeasure_COST), .val .null, .unset] [(.ref u_QosMeasure_COST)])) rfl (by rw [hml]; rfl) (argsL := [(.ref u_QosMeasure_COST)]) (rest := []) (lenOf pd_5 rfl) rfl (by show 2 * 0 + _ ≤ _; exact Nat.le_of_eq rfl) (hb hby at_45) (fun _ _ => ⟨rfl, e79, (by decide : 0 + 1 ≤ _), (by decide : 0 + 3 ≤ _)⟩)
    dsimp only [Pt.U, Pt.locs, Pt.cells, Pt.slots] at X80 l80 y80 z80 st80 hQ80
    subst l80 y80 z80
    obtain ⟨rfl, N80q, Kc80⟩ := hQ80
    have Zs80 : n0 ≤ T80.heap.size := Nat.le_trans Z0 Kc80.1
    have F81 : Sta Z T80.heap "java/util/Optional" "EMPTY" "Ljava/util/Optional;" (.ref u_Optional_EMPTY) := own_stakeep S_Optional_EMPTY Kc80 all0
    have F82 : Exa Z T80.heap u_Optional_EMPTY "java/util/Optional" := E_u_Optional_EMPTY.keep Kc80
    have F83 : Fld Z T80.heap u_Optional_EMPTY "java/util/Optional" "value" "Ljava/lang/Object;" .null := F_u_Optional_EMPTY_value.keep Kc80 nin0
    have F84 : Sta Z T80.heap "com/example/leanweave/leanweave/QosMeasure" "RESPONSE_TIME" "Lcom/example/leanweave/leanweave/QosMeasure;" (.ref u_QosMeasure_RESPONSE_TIME) := own_stakeep S_QosMeasure_RESPONSE_TIME Kc80 all0
    have F85 : Exa Z T80.heap u_QosMeasure_RESPONSE_TIME "com/example/leanweave/leanweave/QosMeasure" := E_u_QosMeasure_RESPONSE_TIME.keep Kc80
    have F86 : Sta Z T80.heap "com/example/leanweave/leanweave/Objective" "RESPONSE_TIME" "Lcom/example/leanweave/leanweave/Objective;" (.ref u_Objective_RESPONSE_TIME) := own_stakeep S_Objective_RESPONSE_TIME Kc80 all0
    have F87 : Exa Z T80.heap u_Objective_RESPONSE_TIME "com/example/leanweave/leanweave/Objective" := E_u_Objective_RESPONSE_TIME.keep Kc80
    have F88 : Sta Z T80.heap "com/example/leanweave/leanweave/Objective" "$VALUES" "[Lcom/example/leanweave/leanweave/Objective;" (.ref u_Objective__VALUES) := own_stakeep S_Objective__VALUES Kc80 all0
    have F89 : Exa Z T80.heap u_Objective__VALUES "[Lcom/example/leanweave/leanweave/Objective;" := E_u_Objective__VALUES.keep Kc80
    have F90 : Sta Z T80.heap "com/example/leanweave/leanweave/Objective" "SERVICES" "Lcom/example/leanweave/leanweave/Objective;" (.ref u_Objective_SERVICES) := own_stakeep S_Objective_SERVICES Kc80 all0
    have F91 : Exa Z T80.heap u_Objective_SERVICES "com/example/leanweave/leanweave/Objective" := E_u_Objective_SERVICES.keep Kc80
    have F92 : Sta Z T80.heap "com/example/leanweave/leanweave/Objective" "THROUGHPUT" "Lcom/example/leanweave/leanweave/Objective;" (.ref u_Objective_THROUGHPUT) := own_stakeep S_Objective_THROUGHPUT Kc80 all0
    have F93 : Exa Z T80.heap u_Objective_THROUGHPUT "com/example/leanweave/leanweave/Objective" := E_u_Objective_THROUGHPUT.keep Kc80
    have F94 : Fld Z T80.heap u_Objective_SERVICES "com/example/leanweave/leanweave/Objective" "measure" "Lcom/example/leanweave/leanweave/QosMeasure;" .null := F_u_Objective_SERVICES_measure.keep Kc80 nin0
    have F95 : Fld Z T80.heap u_Objective_RESPONSE_TIME "com/example/leanweave/leanweave/Objective" "measure" "Lcom/example/leanweave/leanweave/QosMeasure;" (.ref u_QosMeasure_RESPONSE_TIME) := F_u_Objective_RESPONSE_TIME_measure.keep Kc80 nin0
    have F96 : Sta Z T80.heap "com/example/leanweave/leanweave/QosMeasure" "COST" "Lcom/example/leanweave/leanweave/QosMeasure;" (.ref u_QosMeasure_COST) := own_stakeep S_QosMeasure_COST Kc80 all0
    have F97 : Exa Z T80.heap u_QosMeasure_COST "com/example/leanweave/leanweave/QosMeasure" := E_u_QosMeasure_COST.keep Kc80
    have F98 : Fld Z T80.heap u_QosMeasure_RESPONSE_TIME "java/lang/Enum" "ordinal" "I" (.int (0 : Int32)) := F_u_QosMeasure_RESPONSE_TIME_ordinal.keep Kc80 nin0
    have F99 : Fld Z T80.heap u_QosMeasure_COST "java/lang/Enum" "ordinal" "I" (.int (2 : Int32)) := F_u_QosMeasure_COST_ordinal.keep Kc80 nin0
    have F100 : Sta Z T80.heap "com/example/leanweave/leanweave/QosMeasure" "THROUGHPUT" "Lcom/example/leanweave/leanweave/QosMeasure;" (.ref u_QosMeasure_THROUGHPUT) := own_stakeep S_QosMeasure_THROUGHPUT Kc80 all0
    have F101 : Exa Z T80.heap u_QosMeasure_THROUGHPUT "com/example/leanweave/leanweave/QosMeasure" := E_u_QosMeasure_THROUGHPUT.keep Kc80
    have F102 : Fld Z T80.heap u_Objective_THROUGHPUT "com/example/leanweave/leanweave/Objective" "measure" "Lcom/example/leanweave/leanweave/QosMeasure;" (.ref u_QosMeasure_THROUGHPUT) := F_u_Objective_THROUGHPUT_measure.keep Kc80 nin0
    have F103 : Fld Z T80.heap u_QosMeasure_THROUGHPUT "java/lang/Enum" "ordinal" "I" (.int (1 : Int32)) := F_u_QosMeasure_THROUGHPUT_ordinal.keep Kc80 nin0
    have F104 : Arv Z T80.heap u_Objective__VALUES cl_u_Objective__VALUES.cls (.object "com/example/leanweave/leanweave/Objective") (3 : Int32) [(.ref u_Objective_SERVICES), (.ref u_Objective_RESPONSE_TIME), (.ref u_Objective_THROUGHPUT)] .null := V_u_Objective__VALUES.keep Kc80 nin0
    have N80 := Fr.app N0 N80q
    obtain ⟨cq105, kq105, q105a, q105b, q105c⟩ := isOf hZ rfl F82
    obtain ⟨_, _, ⟨T105, L105, k105, n105⟩, -, X105, ⟨Lc105, hQ105, l105, y105, z105⟩, st105⟩ := X80.virtualBack hx (y := (⟨"java/util/Optional", "orElse", "(Ljava/lang/Object;)Ljava/lang/Object;"⟩ : MethodName)) (z := (⟨"java/util/Optional", "orElse", "(Ljava/lang/Object;)Ljava/lang/Object;"⟩ : MethodName)) hown (mvT hZ (hw _ (List.mem_of_getElem? (i := 48) rfl))) (mvT hZ (hw _ (List.mem_of_getElem? (i := 49) rfl))) (notFace_of_selects (args := #[]) (mvT hZ (hw _ (List.mem_of_getElem? (i := 51) rfl)))) (mvT hZ (hw _ (List.mem_of_getElem? (i := 51) rfl))) (mvT hZ (hw _ (List.mem_of_getElem? (i := 50) rfl))) (by decide) (backOf (W := 0) (rm7 l Z a0 hw [] u_Optional_EMPTY T80.heap n0 Zs80 F83) hZ (hw _ (List.mem_of_getElem? (i := 52) rfl)) (hw _ (List.mem_of_getElem? (i := 31) rfl)) (by decide) (by decide)) q105a q105c (g := (mkF m 49 #[.val (.int p0_0), .val (.int (2 : Int32)), .val (.ref u_QosMeasure_COST), .val .null, .unset] [.null, (.ref u_Optional_EMPTY)])) rfl (by rw [hml]; rfl) (Steps.refl _) (argsL := [.null]) (rest := []) (lenOf pd_0 rfl) rfl (by show 2 * 0 + _ ≤ _; exact Nat.le_of_eq rfl) (hb hby at_49) (fun _ _ => ⟨rfl, rfl, (by decide : 1 + 0 ≤ _), (by decide : 3 + 0 ≤ _)⟩)
    dsimp only [Pt.U, Pt.locs, Pt.cells, Pt.slots] at X105 l105 y105 z105 st105 hQ105
    subst l105 y105 z105
    obtain ⟨rfl, N105q, eh105⟩ := hQ105
    have N105 := Fr.app N80 N105q
    have k106 : ∀ t, Steps p.tables e below (T105.setTop (mkF m 68 #[.val (.int p0_0), .val (.int (2 : Int32)), .val (.ref u_QosMeasure_COST), .val .null, .val .null] [(.int (1 : Int32))])) t → Steps p.tables e below (s₁.setTop (entryFrame m #[(.int p0_0)] maxLocals)) t := by
      intro t k
      refine k1 t ?_
      show Steps p.tables e below (s₁.setTop (mkF m 7 #[.val (.int p0_0), .val (.int (2 : Int32)), .unset, .unset, .unset] [])) _
      refine XS.iloadN X0.here hx rfl (hb hby at_7) rfl ?_
      show Steps p.tables e below (s₁.setTop (mkF m 8 #[.val (.int p0_0), .val (.int (2 : Int32)), .unset, .unset, .unset] [(.int (2 : Int32))])) _
      refine XS.ifYes X0.here hx rfl (pc0 := 8) (pc' := 22) rfl (hb hby at_8) rfl ((if0 _ _).trans (feq (by decide : ¬ ((2 : Int32) = (0 : Int32)))).2) (by decide) (by decide) ?_
      show Steps p.tables e below (s₁.setTop (mkF m 22 #[.val (.int p0_0), .val (.int (2 : Int32)), .unset, .unset, .unset] [])) _
      refine XS.iloadN X0.here hx rfl (hb hby at_22) rfl ?_
      show Steps p.tables e below (s₁.setTop (mkF m 23 #[.val (.int p0_0), .val (.int (2 : Int32)), .unset, .unset, .unset] [(.int (2 : Int32))])) _
      refine XS.iconst X0.here hx rfl (hb hby at_23) ?_
      show Steps p.tables e below (s₁.setTop (mkF m 24 #[.val (.int p0_0), .val (.int (2 : Int32)), .unset, .unset, .unset] [(.int (1 : Int32)), (.int (2 : Int32))])) _
      refine XS.icmpYes X0.here hx rfl (pc0 := 24) (pc' := 38) rfl (hb hby at_24) rfl (feq (by decide : ¬ ((2 : Int32) = (1 : Int32)))).2 (by decide) (by decide) ?_
      show Steps p.tables e below (s₁.setTop (mkF m 38 #[.val (.int p0_0), .val (.int (2 : Int32)), .unset, .unset, .unset] [])) _
      refine st79 _ ?_
      show Steps p.tables e below (T79.setTop (mkF m 41 #[.val (.int p0_0), .val (.int (2 : Int32)), .unset, .unset, .unset] [(.ref u_QosMeasure_COST)])) _
      refine XS.astoreN X79.here hx rfl (hb hby at_41) rfl rfl (l' := #[.val (.int p0_0), .val (.int (2 : Int32)), .val (.ref u_QosMeasure_COST), .unset, .unset]) rfl ?_
      show Steps p.tables e below (T79.setTop (mkF m 42 #[.val (.int p0_0), .val (.int (2 : Int32)), .val (.ref u_QosMeasure_COST), .unset, .unset] [])) _
      refine XS.aconstNull X79.here hx rfl (hb hby at_42) ?_
      show Steps p.tables e below (T79.setTop (mkF m 43 #[.val (.int p0_0), .val (.int (2 : Int32)), .val (.ref u_QosMeasure_COST), .unset, .unset] [.null])) _
      refine XS.astoreN X79.here hx rfl (hb hby at_43) rfl rfl (l' := #[.val (.int p0_0), .val (.int (2 : Int32)), .val (.ref u_QosMeasure_COST), .val .null, .unset]) rfl ?_
      show Steps p.tables e below (T79.setTop (mkF m 44 #[.val (.int p0_0), .val (.int (2 : Int32)), .val (.ref u_QosMeasure_COST), .val .null, .unset] [])) _
      refine XS.aloadN X79.here hx rfl (hb hby at_44) rfl rfl ?_
      show Steps p.tables e below (T79.setTop (mkF m 45 #[.val (.int p0_0), .val (.int (2 : Int32)), .val (.ref u_QosMeasure_COST), .val .null, .unset] [(.ref u_QosMeasure_COST)])) _
      refine st80 _ ?_
      show Steps p.tables e below (T80.setTop (mkF m 48 #[.val (.int p0_0), .val (.int (2 : Int32)), .val (.ref u_QosMeasure_COST), .val .null, .unset] [(.ref u_Optional_EMPTY)])) _
      refine XS.aconstNull X80.here hx rfl (hb hby at_48) ?_
      show Steps p.tables e below (T80.setTop (mkF m 49 #[.val (.int p0_0), .val (.int (2 : Int32)), .val (.ref u_QosMeasure_COST), .val .null, .unset] [.null, (.ref u_Optional_EMPTY)])) _
      refine st105.trans ?_
      show Steps p.tables e below (T105.setTop (mkF m 52 #[.val (.int p0_0), .val (.int (2 : Int32)), .val (.ref u_QosMeasure_COST), .val .null, .unset] [.null])) _
      refine X105.checkcastNull hx (g := (mkF m 52 #[.val (.int p0_0), .val (.int (2 : Int32)), .val (.ref u_QosMeasure_COST), .val .null, .unset] [.null])) rfl rfl (hb hby at_52) _ ?_
      show Steps p.tables e below (T105.setTop (mkF m 55 #[.val (.int p0_0), .val (.int (2 : Int32)), .val (.ref u_QosMeasure_COST), .val .null, .unset] [.null])) _
      refine XS.astore X105.here hx rfl (hb hby at_55) rfl rfl (l' := #[.val (.int p0_0), .val (.int (2 : Int32)), .val (.ref u_QosMeasure_COST), .val .null, .val .null]) rfl ?_
      show Steps p.tables e below (T105.setTop (mkF m 57 #[.val (.int p0_0), .val (.int (2 : Int32)), .val (.ref u_QosMeasure_COST), .val .null, .val .null] [])) _
      refine XS.aload X105.here hx rfl (hb hby at_57) rfl rfl ?_
      show Steps p.tables e below (T105.setTop (mkF m 59 #[.val (.int p0_0), .val (.int (2 : Int32)), .val (.ref u_QosMeasure_COST), .val .null, .val .null] [.null])) _
      refine XS.aloadN X105.here hx rfl (hb hby at_59) rfl rfl ?_
      show Steps p.tables e below (T105.setTop (mkF m 60 #[.val (.int p0_0), .val (.int (2 : Int32)), .val (.ref u_QosMeasure_COST), .val .null, .val .null] [.null, .null])) _
      refine Jvm.RoadKit.acmp (g := (mkF m 60 #[.val (.int p0_0), .val (.int (2 : Int32)), .val (.ref u_QosMeasure_COST), .val .null, .val .null] [.null, .null])) X105 hx rfl rfl rfl (pc0 := 60) (pc' := 63) (same := true) rfl (hb hby at_60) rfl (decide_eq_true rfl) (by decide) (by decide) ?_
      show Steps p.tables e below (T105.setTop (mkF m 63 #[.val (.int p0_0), .val (.int (2 : Int32)), .val (.ref u_QosMeasure_COST), .val .null, .val .null] [])) _
      refine XS.iconst X105.here hx rfl (hb hby at_63) ?_
      show Steps p.tables e below (T105.setTop (mkF m 64 #[.val (.int p0_0), .val (.int (2 : Int32)), .val (.ref u_QosMeasure_COST), .val .null, .val .null] [(.int (1 : Int32))])) _
      refine XS.goto X105.here hx rfl (pc0 := 64) (pc' := 68) rfl (hb hby at_64) (by decide) (by decide) ?_
      exact k
    obtain ⟨fs, hr, hrun, hended, hW, hsame⟩ := X105.leave (v := some (.int (1 : Int32))) (fun h => by rw [Bd.returns] at h; cases h)
    refine ⟨_, _, k106 _ ?_, hrun, hended, _, _, rfl, ?_, ⟨_, rfl⟩, hW, hsame.mono (by decide) (by decide)⟩
    · exact retN X105 hx (t := .boolean) Bd.returns (by simp) (hb hby at_68) hr
    · show Q0 Z p0_0 u_Optional_EMPTY u_QosMeasure_RESPONSE_TIME u_Objective_RESPONSE_TIME u_Objective__VALUES cl_u_Objective__VALUES u_Objective_SERVICES u_Objective_THROUGHPUT u_QosMeasure_COST u_QosMeasure_THROUGHPUT h0 n0 _ T105.heap _
      rw [eh105]
      exact ⟨rfl, N105⟩
set_option maxRecDepth 65536 in
set_option maxHeartbeats 40000000 in
theorem comes_1 {Post : Tables → Env → Array Value → State → Outcome → State → Prop} (hpost : ∀ tb e args s v u, (limb_1_1.after args s (.returned v) u = true ∧ limb_1_2.after args s (.returned v) u = true ∧ True) → FrameEnd s (.returned v) u (Jvm.fieldLocs frame_1_writes args s ++ Jvm.arrayLocs frame_1_arrays args s ++ Jvm.staticLocs frame_1_statics s) 16 128 → Post tb e args s (.returned v) u) :
    ArmFor flags0 classFile x code maxLocals ret World_1 tables_1 room_1 Calls_1 rest_1 Pre_1 Post := by
  intro l hfl _ _ p e ha hc hk s m args below hf hA hF happ hP
  obtain ⟨hcalls, hrest, hpre⟩ := hP
  obtain ⟨-, -, -, hnamed, -, -, -, hat⟩ := (Spec.applies_iff hf).mp happ
  obtain ⟨hg, hn⟩ := and_e (Cond.before_iff.mp (show (Jvm.Cond.and given_1 narrow_1).before args s = true from hpre))
  obtain ⟨gv1, gv2⟩ := and_e hg
  obtain ⟨w0, rfl⟩ : ∃ w0 : Value, args = #[w0] := by
    have hs : args.size = 1 := by simpa [Cond.value, given_1] using gv1
    obtain ⟨L⟩ := args
    match L, hs with
    | [w0], _ => exact ⟨w0, rfl⟩
  have hw := fun d (hd : d ∈ tables_1) => atoms_spec (ws := Jvm.Cond.code x code maxLocals ret :: tables_1) hat d (List.mem_cons_of_mem _ hd)
  have hfit : Fit s := fun {y c} hc i hi => by
    obtain ⟨ha, rfl⟩ := Array.getElem?_eq_some_iff.mp hc
    have q := List.all_eq_true.mp ((Array.all_eq_true_iff_forall_mem.mp hF) _ (Array.getElem_mem ha)) i (List.mem_range.mpr hi)
    simpa [Array.getElem?_eq_getElem hi] using q
  obtain ⟨hsets, hown0⟩ := atoms_of _ (rest_1_c_eq ▸ (show rest_1_c.before _ s = true from hrest))
  have hr0 := Cond.before_iff.mp hown0
  obtain ⟨i0, ei0⟩ := is_v gv2
  obtain rfl : w0 = (.int i0) := Option.some.inj ei0
  obtain ⟨nv1, nv2⟩ := and_e hn
  obtain ⟨nv3, nv4⟩ := and_e nv2
  obtain ⟨nv5, nv6⟩ := and_e nv4
  obtain ⟨nv7, nv8⟩ := and_e nv6
  obtain ⟨nv9, nv10⟩ := and_e nv8
  obtain ⟨nv11, nv12⟩ := and_e nv10
  obtain ⟨nv13, nv14⟩ := and_e nv12
  obtain ⟨nv15, nv16⟩ := and_e nv14
  obtain ⟨nv17, nv18⟩ := and_e nv16
  obtain ⟨nv19, nv20⟩ := and_e nv18
  obtain ⟨nv21, nv22⟩ := and_e nv20
  obtain ⟨nv23, nv24⟩ := and_e nv22
  obtain ⟨nv25, nv26⟩ := and_e nv24
  obtain ⟨nv27, nv28⟩ := and_e nv26
  obtain ⟨nv29, nv30⟩ := and_e nv28
  obtain ⟨nv31, nv32⟩ := and_e nv30
  obtain ⟨nv33, nv34⟩ := and_e nv32
  obtain ⟨u_Optional_EMPTY, ev_u_Optional_EMPTY, E_u_Optional_EMPTY⟩ := own_ex (Cond.before_iff.mp (hsets _ (List.mem_of_getElem? (i := 2) rfl)))
  have S_Optional_EMPTY : Sta s s.heap "java/util/Optional" "EMPTY" "Ljava/util/Optional;" (.ref u_Optional_EMPTY) := Sta.start ev_u_Optional_EMPTY (Or.inl (hsets _ (List.mem_of_getElem? (i := 1) rfl)))
  have e_1 := null_v (Cond.before_iff.mp (hsets _ (List.mem_of_getElem? (i := 3) rfl)))
  have F_u_Optional_EMPTY_value : Fld s s.heap u_Optional_EMPTY "java/util/Optional" "value" "Ljava/lang/Object;" .null := own_fldV ev_u_Optional_EMPTY e_1
  obtain ⟨u_QosMeasure_RESPONSE_TIME, ev_u_QosMeasure_RESPONSE_TIME, E_u_QosMeasure_RESPONSE_TIME⟩ := own_ex nv1
  have S_QosMeasure_RESPONSE_TIME : Sta s s.heap "com/example/leanweave/leanweave/QosMeasure" "RESPONSE_TIME" "Lcom/example/leanweave/leanweave/QosMeasure;" (.ref u_QosMeasure_RESPONSE_TIME) := Sta.start ev_u_QosMeasure_RESPONSE_TIME (Or.inr ⟨(hw _ (List.mem_of_getElem? (i := 2) rfl)), (hw _ (List.mem_of_getElem? (i := 3) rfl))⟩)
  obtain ⟨u_Objective_RESPONSE_TIME, ev_u_Objective_RESPONSE_TIME, E_u_Objective_RESPONSE_TIME⟩ := own_ex nv3
  have S_Objective_RESPONSE_TIME : Sta s s.heap "com/example/leanweave/leanweave/Objective" "RESPONSE_TIME" "Lcom/example/leanweave/leanweave/Objective;" (.ref u_Objective_RESPONSE_TIME) := Sta.start ev_u_Objective_RESPONSE_TIME (Or.inr ⟨(hw _ (List.mem_of_getElem? (i := 5) rfl)), (hw _ (List.mem_of_getElem? (i := 6) rfl))⟩)
  obtain ⟨u_Objective__VALUES, ev_u_Objective__VALUES⟩ := arr_v nv5
  obtain ⟨cl_u_Objective__VALUES, Ar_u_Objective__VALUES⟩ := Arr.start ev_u_Objective__VALUES nv5
  have S_Objective__VALUES : Sta s s.heap "com/example/leanweave/leanweave/Objective" "$VALUES" "[Lcom/example/leanweave/leanweave/Objective;" (.ref u_Objective__VALUES) := Sta.start ev_u_Objective__VALUES (Or.inl (hw _ (List.mem_of_getElem? (i := 24) rfl)))
  have E_u_Objective__VALUES := Exa.start ev_u_Objective__VALUES nv7
  have e_2 := own_evI nv9
  obtain ⟨u_Objective_SERVICES, ev_u_Objective_SERVICES, E_u_Objective_SERVICES⟩ := own_ex nv11
  have S_Objective_SERVICES : Sta s s.heap "com/example/leanweave/leanweave/Objective" "SERVICES" "Lcom/example/leanweave/leanweave/Objective;" (.ref u_Objective_SERVICES) := Sta.start ev_u_Objective_SERVICES (Or.inr ⟨(hw _ (List.mem_of_getElem? (i := 5) rfl)), (hw _ (List.mem_of_getElem? (i := 22) rfl))⟩)
  have e_3 := own_evR nv13 ev_u_Objective_SERVICES
  have e_4 := own_evR nv15 ev_u_Objective_RESPONSE_TIME
  obtain ⟨u_Objective_THROUGHPUT, ev_u_Objective_THROUGHPUT, E_u_Objective_THROUGHPUT⟩ := own_ex nv17
  have S_Objective_THROUGHPUT : Sta s s.heap "com/example/leanweave/leanweave/Objective" "THROUGHPUT" "Lcom/example/leanweave/leanweave/Objective;" (.ref u_Objective_THROUGHPUT) := Sta.start ev_u_Objective_THROUGHPUT (Or.inr ⟨(hw _ (List.mem_of_getElem? (i := 5) rfl)), (hw _ (List.mem_of_getElem? (i := 23) rfl))⟩)
  have e_5 := own_evR nv19 ev_u_Objective_THROUGHPUT
  have e_6 := null_v nv21
  have F_u_Objective_SERVICES_measure : Fld s s.heap u_Objective_SERVICES "com/example/leanweave/leanweave/Objective" "measure" "Lcom/example/leanweave/leanweave/QosMeasure;" .null := own_fldV ev_u_Objective_SERVICES e_6
  have e_7 := own_evR nv23 ev_u_QosMeasure_RESPONSE_TIME
  have F_u_Objective_RESPONSE_TIME_measure : Fld s s.heap u_Objective_RESPONSE_TIME "com/example/leanweave/leanweave/Objective" "measure" "Lcom/example/leanweave/leanweave/QosMeasure;" (.ref u_QosMeasure_RESPONSE_TIME) := own_fldV ev_u_Objective_RESPONSE_TIME e_7
  obtain ⟨u_QosMeasure_COST, ev_u_QosMeasure_COST, E_u_QosMeasure_COST⟩ := own_ex nv25
  have S_QosMeasure_COST : Sta s s.heap "com/example/leanweave/leanweave/QosMeasure" "COST" "Lcom/example/leanweave/leanweave/QosMeasure;" (.ref u_QosMeasure_COST) := Sta.start ev_u_QosMeasure_COST (Or.inr ⟨(hw _ (List.mem_of_getElem? (i := 2) rfl)), (hw _ (List.mem_of_getElem? (i := 56) rfl))⟩)
  have e_8 := own_evI nv27
  have F_u_QosMeasure_RESPONSE_TIME_ordinal : Fld s s.heap u_QosMeasure_RESPONSE_TIME "java/lang/Enum" "ordinal" "I" (.int (0 : Int32)) := own_fldV ev_u_QosMeasure_RESPONSE_TIME e_8
  have e_9 := own_evI nv29
  have F_u_QosMeasure_COST_ordinal : Fld s s.heap u_QosMeasure_COST "java/lang/Enum" "ordinal" "I" (.int (2 : Int32)) := own_fldV ev_u_QosMeasure_COST e_9
  obtain ⟨u_QosMeasure_THROUGHPUT, ev_u_QosMeasure_THROUGHPUT, E_u_QosMeasure_THROUGHPUT⟩ := own_ex nv31
  have S_QosMeasure_THROUGHPUT : Sta s s.heap "com/example/leanweave/leanweave/QosMeasure" "THROUGHPUT" "Lcom/example/leanweave/leanweave/QosMeasure;" (.ref u_QosMeasure_THROUGHPUT) := Sta.start ev_u_QosMeasure_THROUGHPUT (Or.inr ⟨(hw _ (List.mem_of_getElem? (i := 2) rfl)), (hw _ (List.mem_of_getElem? (i := 57) rfl))⟩)
  have e_10 := own_evR nv33 ev_u_QosMeasure_THROUGHPUT
  have F_u_Objective_THROUGHPUT_measure : Fld s s.heap u_Objective_THROUGHPUT "com/example/leanweave/leanweave/Objective" "measure" "Lcom/example/leanweave/leanweave/QosMeasure;" (.ref u_QosMeasure_THROUGHPUT) := own_fldV ev_u_Objective_THROUGHPUT e_10
  have e_11 := own_evI nv34
  have F_u_QosMeasure_THROUGHPUT_ordinal : Fld s s.heap u_QosMeasure_THROUGHPUT "java/lang/Enum" "ordinal" "I" (.int (1 : Int32)) := own_fldV ev_u_QosMeasure_THROUGHPUT e_11
  have hl_u_Objective__VALUES := own_len ev_u_Objective__VALUES (Ar_u_Objective__VALUES.fin (Vm.Alike.refl _)) e_2
  have V_u_Objective__VALUES : Arv s s.heap u_Objective__VALUES cl_u_Objective__VALUES.cls (.object "com/example/leanweave/leanweave/Objective") (3 : Int32) [(.ref u_Objective_SERVICES), (.ref u_Objective_RESPONSE_TIME), (.ref u_Objective_THROUGHPUT)] .null := Arv.start hfit Ar_u_Objective__VALUES hl_u_Objective__VALUES.1 hl_u_Objective__VALUES.2 (by decide) rfl ⟨(elem_in e_3 ev_u_Objective__VALUES (Term.int_eval _) Ar_u_Objective__VALUES.1).2, (elem_in e_4 ev_u_Objective__VALUES (Term.int_eval _) Ar_u_Objective__VALUES.1).2, (elem_in e_5 ev_u_Objective__VALUES (Term.int_eval _) Ar_u_Objective__VALUES.1).2, trivial⟩
  obtain ⟨n, o, h1, h2, h3, _, L, rfl, ⟨rfl, N⟩, hq⟩ := rm0 l s _ hw tables_1 i0 u_Optional_EMPTY u_QosMeasure_RESPONSE_TIME u_Objective_RESPONSE_TIME u_Objective__VALUES cl_u_Objective__VALUES u_Objective_SERVICES u_Objective_THROUGHPUT u_QosMeasure_COST u_QosMeasure_THROUGHPUT s.heap s.heap.size (Nat.le_refl _) S_Optional_EMPTY E_u_Optional_EMPTY F_u_Optional_EMPTY_value S_QosMeasure_RESPONSE_TIME E_u_QosMeasure_RESPONSE_TIME S_Objective_RESPONSE_TIME E_u_Objective_RESPONSE_TIME S_Objective__VALUES E_u_Objective__VALUES S_Objective_SERVICES E_u_Objective_SERVICES S_Objective_THROUGHPUT E_u_Objective_THROUGHPUT F_u_Objective_SERVICES_measure F_u_Objective_RESPONSE_TIME_measure S_QosMeasure_COST E_u_QosMeasure_COST F_u_QosMeasure_RESPONSE_TIME_ordinal F_u_QosMeasure_COST_ordinal S_QosMeasure_THROUGHPUT E_u_QosMeasure_THROUGHPUT F_u_Objective_THROUGHPUT_measure F_u_QosMeasure_THROUGHPUT_ordinal V_u_Objective__VALUES p e ha hc hk s m _ below hf ((Spec.applies_iff_loose hf).mp happ).1 ⟨rfl, State.Warmed39.refl s, rfl⟩ trivial
  refine ⟨n, _, h1, h2, h3, hpost _ _ _ _ _ _ ⟨Cond.after_iff.mpr rfl, Cond.after_iff.mpr (eq_i res_at (Term.int_eval (1)) rfl), trivial⟩ ⟨hq.1, hq.2.1, (hq.2.2.sift fun y hy => Or.inr (N y hy)).mono (by decide) (by decide)⟩⟩
theorem main_1_1 : Claimed_1_1 := comes_1 fun _ _ _ _ _ _ h hF => ⟨h.1, hF⟩
theorem main_1_2 : Claimed_1_2 := comes_1 fun _ _ _ _ _ _ h hF => ⟨h.2.1, hF⟩
end Jvm.Pilot.@@N@@
namespace Jvm.Pilot.@@N@@
open Jvm Jvm.ClassFile Sem Op Lib Jvm.Free Jvm.Stand Jvm.Pilot.@@N@@.Jvm.D
/-! MADE BY PROGRAM (witnessworld.py) out of the Statement's table words and the real class files: 16 classes; the members and pool entries that the words name. The judged class is class 1, her method 1. -/
namespace start1
open Jvm.ClassFile
def u (s : String) : CpInfo := .utf8 (stringToUtf16 s)
/-- a pool by its gaps: so many unusable entries, then the entry; so many at the end -/
def gap : Nat → List CpInfo → List CpInfo
  | 0, r => r
  | n + 1, r => .unusable :: gap n r
def poolList (es : List (Nat × CpInfo)) (last : Nat) : List CpInfo := es.foldr (fun e r => gap e.1 (e.2 :: r)) (gap last [])
def pool (es : List (Nat × CpInfo)) (last : Nat) : Array CpInfo := ⟨poolList es last⟩
def fileOf (pool : Array CpInfo) (this : Nat) (attrs : Array Attribute := #[]) (ms : Array MethodInfo := #[]) (fl : Nat := 33) (sup : Nat := 0) (ifs : Array Nat := #[]) (fds : Array FieldInfo := #[]) : ClassFile where
  minorVersion := 0
  majorVersion := 65
  constantPool := pool
  accessFlags := fl
  thisClass := this
  superClass := sup
  interfaces := ifs
  fields := fds
  methods := ms
  attributes := attrs
def plain (name : String) (sup : Option ClassId) : Class where
  name := name
  kind := .ordinary
  loader := none
  accessFlags := 33
  super := sup
  interfaces := #[]
  cf := none
  fields := #[]
  methods := #[]
  instanceTypes := #[]
  staticTypes := #[]
  resolved := #[]
  callSites := []
  init := .initialized
  statics := none
  mirror := none

def pool0 : Array CpInfo := pool [(5, u "<init>"), (0, u "()V"), (1, .class_ 10), (1, u "java/lang/Object"), (85, u "clone"), (0, u "()Ljava/lang/Object;")] 26

def k0c0 : Code := { maxStack := 0, maxLocals := 1, code := object_method_1_code, exceptionTable := #[], attributes := #[] }
def k0m0 : Method := { name := "<init>", desc := "()V", sig := { parameters := [], returnType := none }, accessFlags := 1, code := some k0c0 }
def k0m1 : Method := { name := "clone", desc := "()Ljava/lang/Object;", sig := { parameters := [], returnType := some (.object "java/lang/Object") }, accessFlags := 260, code := none }
/-- java/lang/Object -/
def k0 : Class := { plain "java/lang/Object" none with
  accessFlags := 33
  interfaces := #[]
  cf := some (fileOf pool0 8 #[] #[{ accessFlags := 1, nameIndex := 5, descriptorIndex := 6, attributes := #[] }, { accessFlags := 260, nameIndex := 96, descriptorIndex := 97, attributes := #[] }] 33 0 #[] #[])
  fields := #[]
  methods := #[k0m0, k0m1]
  instanceTypes := #[]
  staticTypes := #[]
  resolved := Array.replicate 124 none
  statics := none }

def pool1 : Array CpInfo := pool [(2, .class_ 4), (1, u "java/lang/Object"), (0, u "<init>"), (0, u "()V"), (0, .integer 2147483647), (0, .fieldref 9 10), (0, .class_ 11), (0, .nameAndType 12 13), (0, u "com/example/leanweave/leanweave/QosMeasure"), (0, u "RESPONSE_TIME"), (0, u "Lcom/example/leanweave/leanweave/QosMeasure;"), (0, .fieldref 15 16), (0, .class_ 17), (0, .nameAndType 12 18), (0, u "com/example/leanweave/leanweave/Objective"), (0, u "Lcom/example/leanweave/leanweave/Objective;"), (0, .fieldref 9 20), (0, .nameAndType 21 13), (0, u "THROUGHPUT"), (0, .fieldref 15 23), (0, .nameAndType 21 18), (0, .fieldref 9 25), (0, .nameAndType 26 13), (0, u "COST"), (0, .methodref 15 28), (0, .nameAndType 29 30), (0, u "seeking"), (0, u "(Lcom/example/leanweave/leanweave/QosMeasure;)Ljava/util/Optional;"), (0, .methodref 32 33), (0, .class_ 34), (0, .nameAndType 35 36), (0, u "java/util/Optional"), (0, u "orElse"), (0, u "(Ljava/lang/Object;)Ljava/lang/Object;"), (0, .class_ 38), (0, u "com/example/leanweave/leanweave/ObjectiveSeekingPinLaw"), (2, u "law"), (0, u "(I)Z")] 3

def k1m0 : Method := { name := "<init>", desc := "()V", sig := { parameters := [], returnType := none }, accessFlags := 1, code := none }
def k1c1 : Code := { maxStack := 2, maxLocals := 5, code := code, exceptionTable := #[], attributes := #[] }
def k1m1 : Method := { name := "law", desc := "(I)Z", sig := { parameters := [.int], returnType := some .boolean }, accessFlags := 9, code := some k1c1 }
/-- com/example/leanweave/leanweave/ObjectiveSeekingPinLaw -/
def k1 : Class := { plain "com/example/leanweave/leanweave/ObjectiveSeekingPinLaw" (some 0) with
  accessFlags := 49
  interfaces := #[]
  cf := some (fileOf pool1 37 #[] #[{ accessFlags := 1, nameIndex := 5, descriptorIndex := 6, attributes := #[] }, { accessFlags := 9, nameIndex := 41, descriptorIndex := 42, attributes := #[] }] 49 2 #[] #[])
  fields := #[]
  methods := #[k1m0, k1m1]
  instanceTypes := #[]
  staticTypes := #[]
  resolved := Array.replicate 46 none
  statics := none }

def pool2 : Array CpInfo := pool [(1, .class_ 2), (0, u "java/lang/constant/Constable"), (0, .class_ 4), (0, u "java/lang/Object")] 6

/-- java/lang/constant/Constable -/
def k2 : Class := { plain "java/lang/constant/Constable" (some 0) with
  accessFlags := 1537
  interfaces := #[]
  cf := some (fileOf pool2 1 #[] #[] 1537 3 #[] #[])
  fields := #[]
  methods := #[]
  instanceTypes := #[]
  staticTypes := #[]
  resolved := Array.replicate 11 none
  statics := none }

def pool3 : Array CpInfo := pool [(1, .class_ 2), (0, u "java/lang/Comparable"), (0, .class_ 4), (0, u "java/lang/Object")] 7

/-- java/lang/Comparable -/
def k3 : Class := { plain "java/lang/Comparable" (some 0) with
  accessFlags := 1537
  interfaces := #[]
  cf := some (fileOf pool3 1 #[] #[] 1537 3 #[] #[])
  fields := #[]
  methods := #[]
  instanceTypes := #[]
  staticTypes := #[]
  resolved := Array.replicate 12 none
  statics := none }

def pool4 : Array CpInfo := pool [(1, .class_ 2), (0, u "java/io/Serializable"), (0, .class_ 4), (0, u "java/lang/Object")] 2

/-- java/io/Serializable -/
def k4 : Class := { plain "java/io/Serializable" (some 0) with
  accessFlags := 1537
  interfaces := #[]
  cf := some (fileOf pool4 1 #[] #[] 1537 3 #[] #[])
  fields := #[]
  methods := #[]
  instanceTypes := #[]
  staticTypes := #[]
  resolved := Array.replicate 7 none
  statics := none }

def pool5 : Array CpInfo := pool [(2, .class_ 4), (1, u "java/lang/Enum"), (0, u "name"), (0, u "Ljava/lang/String;"), (2, u "ordinal"), (0, u "I"), (1, .class_ 14), (1, u "java/lang/Object"), (4, u "hash"), (86, .class_ 108), (1, u "java/lang/Enum$EnumDesc"), (2, .class_ 112), (0, u "java/lang/constant/Constable"), (0, .class_ 114), (0, u "java/lang/Comparable"), (0, .class_ 116), (0, u "java/io/Serializable")] 87

/-- java/lang/Enum -/
def k5 : Class := { plain "java/lang/Enum" (some 0) with
  accessFlags := 1057
  interfaces := #[2, 3, 4]
  cf := some (fileOf pool5 2 #[.nestMembers #[106]] #[] 1057 12 #[111, 113, 115] #[{ accessFlags := 18, nameIndex := 5, descriptorIndex := 6, attributes := #[] }, { accessFlags := 18, nameIndex := 9, descriptorIndex := 10, attributes := #[] }, { accessFlags := 2, nameIndex := 19, descriptorIndex := 10, attributes := #[] }])
  fields := #[{ name := "name", type := (.object "java/lang/String"), accessFlags := 18, slot := 0, constantValue := 0 }, { name := "ordinal", type := .int, accessFlags := 18, slot := 1, constantValue := 0 }, { name := "hash", type := .int, accessFlags := 2, slot := 2, constantValue := 0 }]
  methods := #[]
  instanceTypes := #[(.object "java/lang/String"), .int, .int]
  staticTypes := #[]
  resolved := Array.replicate 204 none
  statics := none }

def pool6 : Array CpInfo := pool [(1, .class_ 2), (0, u "com/example/leanweave/leanweave/QosMeasure"), (2, u "RESPONSE_TIME"), (0, u "Lcom/example/leanweave/leanweave/QosMeasure;"), (2, u "THROUGHPUT"), (2, u "COST"), (2, u "$VALUES"), (0, u "[Lcom/example/leanweave/leanweave/QosMeasure;"), (6, .class_ 25), (1, u "java/lang/Enum"), (8, u "column"), (0, u "Ljava/lang/String;")] 51

/-- com/example/leanweave/leanweave/QosMeasure -/
def k6 : Class := { plain "com/example/leanweave/leanweave/QosMeasure" (some 5) with
  accessFlags := 16433
  interfaces := #[]
  cf := some (fileOf pool6 1 #[] #[] 16433 23 #[] #[{ accessFlags := 16409, nameIndex := 5, descriptorIndex := 6, attributes := #[] }, { accessFlags := 16409, nameIndex := 9, descriptorIndex := 6, attributes := #[] }, { accessFlags := 16409, nameIndex := 12, descriptorIndex := 6, attributes := #[] }, { accessFlags := 18, nameIndex := 34, descriptorIndex := 35, attributes := #[] }, { accessFlags := 4122, nameIndex := 15, descriptorIndex := 16, attributes := #[] }])
  fields := #[{ name := "RESPONSE_TIME", type := (.object "com/example/leanweave/leanweave/QosMeasure"), accessFlags := 16409, slot := 0, constantValue := 0 }, { name := "THROUGHPUT", type := (.object "com/example/leanweave/leanweave/QosMeasure"), accessFlags := 16409, slot := 1, constantValue := 0 }, { name := "COST", type := (.object "com/example/leanweave/leanweave/QosMeasure"), accessFlags := 16409, slot := 2, constantValue := 0 }, { name := "column", type := (.object "java/lang/String"), accessFlags := 18, slot := 3, constantValue := 0 }, { name := "$VALUES", type := (.array (.object "com/example/leanweave/leanweave/QosMeasure")), accessFlags := 4122, slot := 3, constantValue := 0 }]
  methods := #[]
  instanceTypes := #[(.object "java/lang/String"), .int, .int, (.object "java/lang/String")]
  staticTypes := #[(.object "com/example/leanweave/leanweave/QosMeasure"), (.object "com/example/leanweave/leanweave/QosMeasure"), (.object "com/example/leanweave/leanweave/QosMeasure"), (.array (.object "com/example/leanweave/leanweave/QosMeasure"))]
  resolved := Array.replicate 87 none
  statics := some 0 }

def pool7 : Array CpInfo := pool [(1, .class_ 2), (0, u "com/example/leanweave/leanweave/Objective"), (2, u "SERVICES"), (0, u "Lcom/example/leanweave/leanweave/Objective;"), (2, u "RESPONSE_TIME"), (2, u "THROUGHPUT"), (0, .fieldref 1 14), (0, .nameAndType 15 16), (0, u "$VALUES"), (0, u "[Lcom/example/leanweave/leanweave/Objective;"), (0, .methodref 18 19), (0, .class_ 16), (0, .nameAndType 20 21), (0, u "clone"), (0, u "()Ljava/lang/Object;"), (1, .class_ 25), (1, u "java/lang/Enum"), (8, u "word"), (0, u "Ljava/lang/String;"), (0, .fieldref 1 37), (0, .nameAndType 38 39), (0, u "measure"), (0, u "Lcom/example/leanweave/leanweave/QosMeasure;"), (1, .class_ 43), (1, u "java/util/Optional"), (1, u "(Ljava/lang/Object;)Ljava/util/Optional;"), (0, .methodref 1 47), (0, .nameAndType 48 49), (0, u "values"), (0, u "()[Lcom/example/leanweave/leanweave/Objective;"), (0, .methodref 41 51), (0, .nameAndType 52 45), (0, u "of"), (0, .methodref 41 54), (0, .nameAndType 55 56), (0, u "empty"), (0, u "()Ljava/util/Optional;"), (29, u "seeking"), (0, u "(Lcom/example/leanweave/leanweave/QosMeasure;)Ljava/util/Optional;")] 7

def k7c0 : Code := { maxStack := 1, maxLocals := 0, code := prog_17_method_1_code, exceptionTable := #[], attributes := #[] }
def k7m0 : Method := { name := "values", desc := "()[Lcom/example/leanweave/leanweave/Objective;", sig := { parameters := [], returnType := some (.array (.object "com/example/leanweave/leanweave/Objective")) }, accessFlags := 9, code := some k7c0 }
def k7c1 : Code := { maxStack := 2, maxLocals := 5, code := prog_17_method_6_code, exceptionTable := #[], attributes := #[] }
def k7m1 : Method := { name := "seeking", desc := "(Lcom/example/leanweave/leanweave/QosMeasure;)Ljava/util/Optional;", sig := { parameters := [(.object "com/example/leanweave/leanweave/QosMeasure")], returnType := some (.object "java/util/Optional") }, accessFlags := 9, code := some k7c1 }
/-- com/example/leanweave/leanweave/Objective -/
def k7 : Class := { plain "com/example/leanweave/leanweave/Objective" (some 5) with
  accessFlags := 16433
  interfaces := #[]
  cf := some (fileOf pool7 1 #[] #[{ accessFlags := 9, nameIndex := 48, descriptorIndex := 49, attributes := #[] }, { accessFlags := 9, nameIndex := 86, descriptorIndex := 87, attributes := #[] }] 16433 23 #[] #[{ accessFlags := 16409, nameIndex := 5, descriptorIndex := 6, attributes := #[] }, { accessFlags := 16409, nameIndex := 9, descriptorIndex := 6, attributes := #[] }, { accessFlags := 16409, nameIndex := 12, descriptorIndex := 6, attributes := #[] }, { accessFlags := 18, nameIndex := 34, descriptorIndex := 35, attributes := #[] }, { accessFlags := 18, nameIndex := 38, descriptorIndex := 39, attributes := #[] }, { accessFlags := 4122, nameIndex := 15, descriptorIndex := 16, attributes := #[] }])
  fields := #[{ name := "SERVICES", type := (.object "com/example/leanweave/leanweave/Objective"), accessFlags := 16409, slot := 0, constantValue := 0 }, { name := "RESPONSE_TIME", type := (.object "com/example/leanweave/leanweave/Objective"), accessFlags := 16409, slot := 1, constantValue := 0 }, { name := "THROUGHPUT", type := (.object "com/example/leanweave/leanweave/Objective"), accessFlags := 16409, slot := 2, constantValue := 0 }, { name := "word", type := (.object "java/lang/String"), accessFlags := 18, slot := 3, constantValue := 0 }, { name := "measure", type := (.object "com/example/leanweave/leanweave/QosMeasure"), accessFlags := 18, slot := 4, constantValue := 0 }, { name := "$VALUES", type := (.array (.object "com/example/leanweave/leanweave/Objective")), accessFlags := 4122, slot := 3, constantValue := 0 }]
  methods := #[k7m0, k7m1]
  instanceTypes := #[(.object "java/lang/String"), .int, .int, (.object "java/lang/String"), (.object "com/example/leanweave/leanweave/QosMeasure")]
  staticTypes := #[(.object "com/example/leanweave/leanweave/Objective"), (.object "com/example/leanweave/leanweave/Objective"), (.object "com/example/leanweave/leanweave/Objective"), (.array (.object "com/example/leanweave/leanweave/Objective"))]
  resolved := Array.replicate 95 none
  statics := some 1 }

def pool8 : Array CpInfo := pool [(1, .class_ 2), (0, u "java/lang/Cloneable"), (0, .class_ 4), (0, u "java/lang/Object")] 2

/-- java/lang/Cloneable -/
def k8 : Class := { plain "java/lang/Cloneable" (some 0) with
  accessFlags := 1537
  interfaces := #[]
  cf := some (fileOf pool8 1 #[] #[] 1537 3 #[] #[])
  fields := #[]
  methods := #[]
  instanceTypes := #[]
  staticTypes := #[]
  resolved := Array.replicate 7 none
  statics := none }

def pool9 : Array CpInfo := pool [(1, .fieldref 2 3), (0, .class_ 4), (0, .nameAndType 5 6), (0, u "java/util/Optional"), (0, u "EMPTY"), (0, u "Ljava/util/Optional;"), (0, .methodref 8 9), (0, .class_ 10), (0, .nameAndType 11 12), (0, u "java/lang/Object"), (0, u "<init>"), (0, u "()V"), (0, .fieldref 2 14), (0, .nameAndType 15 16), (0, u "value"), (0, u "Ljava/lang/Object;"), (0, .methodref 18 19), (0, .class_ 20), (0, .nameAndType 21 22), (0, u "java/util/Objects"), (0, u "requireNonNull"), (0, u "(Ljava/lang/Object;)Ljava/lang/Object;"), (0, .methodref 2 24), (0, .nameAndType 11 25), (0, u "(Ljava/lang/Object;)V"), (29, u "empty"), (0, u "()Ljava/util/Optional;"), (8, u "(Ljava/lang/Object;)Ljava/util/Optional;"), (16, u "of"), (82, u "orElse")] 21

def k9c0 : Code := { maxStack := 1, maxLocals := 1, code := jdk_32_method_1_code, exceptionTable := #[], attributes := #[] }
def k9m0 : Method := { name := "empty", desc := "()Ljava/util/Optional;", sig := { parameters := [], returnType := some (.object "java/util/Optional") }, accessFlags := 9, code := some k9c0 }
def k9c1 : Code := { maxStack := 2, maxLocals := 2, code := jdk_32_method_2_code, exceptionTable := #[], attributes := #[] }
def k9m1 : Method := { name := "<init>", desc := "(Ljava/lang/Object;)V", sig := { parameters := [(.object "java/lang/Object")], returnType := none }, accessFlags := 2, code := some k9c1 }
def k9c2 : Code := { maxStack := 3, maxLocals := 1, code := jdk_32_method_3_code, exceptionTable := #[], attributes := #[] }
def k9m2 : Method := { name := "of", desc := "(Ljava/lang/Object;)Ljava/util/Optional;", sig := { parameters := [(.object "java/lang/Object")], returnType := some (.object "java/util/Optional") }, accessFlags := 9, code := some k9c2 }
def k9c3 : Code := { maxStack := 1, maxLocals := 2, code := jdk_32_method_15_code, exceptionTable := #[], attributes := #[] }
def k9m3 : Method := { name := "orElse", desc := "(Ljava/lang/Object;)Ljava/lang/Object;", sig := { parameters := [(.object "java/lang/Object")], returnType := some (.object "java/lang/Object") }, accessFlags := 1, code := some k9c3 }
/-- java/util/Optional -/
def k9 : Class := { plain "java/util/Optional" (some 0) with
  accessFlags := 49
  interfaces := #[]
  cf := some (fileOf pool9 2 #[] #[{ accessFlags := 9, nameIndex := 55, descriptorIndex := 56, attributes := #[] }, { accessFlags := 2, nameIndex := 11, descriptorIndex := 25, attributes := #[] }, { accessFlags := 9, nameIndex := 82, descriptorIndex := 65, attributes := #[] }, { accessFlags := 1, nameIndex := 165, descriptorIndex := 22, attributes := #[] }] 49 8 #[] #[{ accessFlags := 26, nameIndex := 5, descriptorIndex := 6, attributes := #[] }, { accessFlags := 18, nameIndex := 15, descriptorIndex := 16, attributes := #[] }])
  fields := #[{ name := "EMPTY", type := (.object "java/util/Optional"), accessFlags := 26, slot := 0, constantValue := 0 }, { name := "value", type := (.object "java/lang/Object"), accessFlags := 18, slot := 0, constantValue := 0 }]
  methods := #[k9m0, k9m1, k9m2, k9m3]
  instanceTypes := #[(.object "java/lang/Object")]
  staticTypes := #[(.object "java/util/Optional")]
  resolved := Array.replicate 187 none
  statics := some 2 }

def pool10 : Array CpInfo := pool [(2, .class_ 4), (1, u "java/lang/Object"), (0, u "<init>"), (0, u "()V"), (35, .class_ 44), (1, u "java/util/Objects"), (0, u "requireNonNull"), (0, u "(Ljava/lang/Object;)Ljava/lang/Object;")] 137

def k10m0 : Method := { name := "<init>", desc := "()V", sig := { parameters := [], returnType := none }, accessFlags := 2, code := none }
def k10c1 : Code := { maxStack := 2, maxLocals := 1, code := jdk_31_method_10_code, exceptionTable := #[], attributes := #[] }
def k10m1 : Method := { name := "requireNonNull", desc := "(Ljava/lang/Object;)Ljava/lang/Object;", sig := { parameters := [(.object "java/lang/Object")], returnType := some (.object "java/lang/Object") }, accessFlags := 9, code := some k10c1 }
/-- java/util/Objects -/
def k10 : Class := { plain "java/util/Objects" (some 0) with
  accessFlags := 49
  interfaces := #[]
  cf := some (fileOf pool10 42 #[] #[{ accessFlags := 2, nameIndex := 5, descriptorIndex := 6, attributes := #[] }, { accessFlags := 9, nameIndex := 45, descriptorIndex := 46, attributes := #[] }] 49 2 #[] #[])
  fields := #[]
  methods := #[k10m0, k10m1]
  instanceTypes := #[]
  staticTypes := #[]
  resolved := Array.replicate 184 none
  statics := none }

/-- the primitive byte -/
def k11 : Class := { plain "byte" none with kind := .primitive 'B', accessFlags := 0x411 }
/-- [B -/
def k12 : Class := { plain "[B" (some 0) with kind := .array 11 .byte, interfaces := #[8, 4], accessFlags := 1041 }

/-- the primitive int -/
def k13 : Class := { plain "int" none with kind := .primitive 'I', accessFlags := 0x411 }
/-- [I -/
def k14 : Class := { plain "[I" (some 0) with kind := .array 13 .int, interfaces := #[8, 4], accessFlags := 1041 }

/-- [Lcom/example/leanweave/leanweave/Objective; -/
def k15 : Class := { plain "[Lcom/example/leanweave/leanweave/Objective;" (some 0) with kind := .array 7 (.object "com/example/leanweave/leanweave/Objective"), interfaces := #[8, 4], accessFlags := 1041 }

def heap : Heap := #[{ cls := 6, slots := #[.ref 4, .ref 5, .ref 6, .null], vm := .statics 6 },
  { cls := 7, slots := #[.ref 7, .ref 8, .ref 9, .ref 3], vm := .statics 7 },
  { cls := 9, slots := #[.ref 10], vm := .statics 9 },
  { cls := 15, slots := #[.ref 7, .ref 8, .ref 9], vm := .none },
  { cls := 6, slots := #[.null, .int 0, .int 0, .null], vm := .none },
  { cls := 6, slots := #[.null, .int 1, .int 0, .null], vm := .none },
  { cls := 6, slots := #[.null, .int 2, .int 0, .null], vm := .none },
  { cls := 7, slots := #[.null, .int 0, .int 0, .null, .null], vm := .none },
  { cls := 7, slots := #[.null, .int 1, .int 0, .null, .ref 4], vm := .none },
  { cls := 7, slots := #[.null, .int 2, .int 0, .null, .ref 5], vm := .none },
  { cls := 9, slots := #[.null], vm := .none }]
def classes : Array Class := #[k0, k1, k2, k3, k4, k5, k6, k7, k8, k9, k10, k11, k12, k13, k14, k15]
def interned : List (Array UInt16 × Addr) := []
def slotsUsed : Nat := 40
def theMethod : MethodId := ⟨1, 1⟩
def args0 : Array Value := #[.int 5]
def aboutOver (below : List Frame) : State where
  vm := { classes := classes, interned := interned.toArray }
  heap := heap
  slotsUsed := slotsUsed
  threads := #[{ frames := .invoking theMethod args0 :: below }]
def below0 : List Frame := [.native { method := ⟨0, 0⟩, args := #[] }]
def about1 : State := aboutOver below0
def p0 : Program := .bare "" "" ""
def e0 : Env := launch0.env 0 0 0
theorem w_frames : about1.frames = Frame.invoking theMethod args0 :: below0 := rfl
set_option maxRecDepth 65536 in
theorem w_args : argsFit about1.vm theMethod args0 = true := by decide +kernel
set_option maxRecDepth 65536 in
theorem w_heap : heapFits about1 = true := by decide +kernel
set_option maxRecDepth 65536 in
theorem w_runnable : about1.curStatus? = some .runnable := by decide +kernel
set_option maxRecDepth 65536 in
theorem w_alone : about1.alone = true := by decide +kernel
set_option maxRecDepth 65536 in
theorem w_named : about1.methodNamed? x = some theMethod := by decide +kernel
set_option maxRecDepth 65536 in
theorem w_hears : about1.hears theMethod below0 = true := by decide +kernel
set_option maxRecDepth 65536 in
theorem w_ripe : about1.ripe theMethod args0 below0 = true := by decide +kernel
theorem w_running : about1.status = .running := rfl
set_option maxRecDepth 65536 in
theorem w_room : about1.hasRoom e0.platform room_1 = true :=
  launch0.hasRoom_least _ room_1 (by decide +kernel) (by decide +kernel) (by decide +kernel) (by decide +kernel) (by decide +kernel) (by decide +kernel)
theorem allAtoms_all (ts : List Jvm.Cond) (a : Array Jvm.Value) (st : Jvm.State) : (allAtoms ts).before a st = ts.all (fun c => c.before a st) := by
  induction ts with
  | nil => rfl
  | cons c t ih =>
    show (Jvm.Cond.and c (allAtoms t)).before a st = _
    rw [Jvm.Cond.before_and, ih, List.all_cons]
def words1 : List Jvm.Cond := Jvm.Cond.code x code maxLocals ret :: tables_1
/-- a 'code' word, met by the world's own term for the bytes: nothing is compared byte by byte -/
theorem code_word {y : MethodName} {bytes : ByteArray} {mx : Nat} {rt : Option FieldType} {a : Array Value} {s : State} {m : MethodId} {meth : Method} {c : Code} (h1 : s.methodNamed? y = some m) (h2 : s.vm.method? m = some meth) (h3 : meth.code = some c) (h4 : c.code = bytes)
    (h5 : (c.maxLocals == mx && c.exceptionTable.isEmpty && decide (c.maxStack ≤ mostOperands) && decide (meth.sig.returnType = rt) && !meth.locks && decide (parseMethodDescriptor y.desc = some meth.sig)) = true) : (Jvm.Cond.code y bytes mx rt).before a s = true := by
  simp only [Bool.and_eq_true, beq_iff_eq, Bool.not_eq_true', decide_eq_true_eq] at h5
  obtain ⟨⟨⟨⟨⟨g1, g2⟩, g3⟩, g4⟩, g5⟩, g6⟩ := h5
  simp [Cond.before, Cond.holds, Cond.value, h1, h2, h3, h4, g1, g2, g3, g4, g5, g6]
def isCode : Jvm.Cond → Bool
  | .code _ _ _ _ => true
  | _ => false
theorem all_split {L : List Jvm.Cond} {P : Jvm.Cond → Bool} (h1 : L.all (fun c => isCode c || P c) = true) (h2 : ∀ c ∈ L.filter isCode, P c = true) : L.all P = true := by
  refine List.all_eq_true.mpr fun c hc => ?_
  have h := List.all_eq_true.mp h1 c hc
  rcases Bool.eq_false_or_eq_true (isCode c) with hi | hi
  · exact h2 c (List.mem_filter.mpr ⟨hc, hi⟩)
  · simpa [hi] using h
set_option maxRecDepth 65536 in
theorem w_c0 : (Jvm.Cond.code x code maxLocals ret).before args0 about1 = true := code_word (m := ⟨1, 1⟩) (meth := k1m1) (c := k1c1) (by decide +kernel) rfl rfl rfl (by decide +kernel)
set_option maxRecDepth 65536 in
theorem w_c1 : (Jvm.Cond.code ({ cls := "com/example/leanweave/leanweave/Objective", name := "seeking", desc := "(Lcom/example/leanweave/leanweave/QosMeasure;)Ljava/util/Optional;" } : Jvm.MethodName) prog_17_method_6_code (5 : Nat) (Option.some (Jvm.ClassFile.FieldType.object "java/util/Optional"))).before args0 about1 = true := code_word (m := ⟨7, 1⟩) (meth := k7m1) (c := k7c1) (by decide +kernel) rfl rfl rfl (by decide +kernel)
set_option maxRecDepth 65536 in
theorem w_c2 : (Jvm.Cond.code ({ cls := "com/example/leanweave/leanweave/Objective", name := "values", desc := "()[Lcom/example/leanweave/leanweave/Objective;" } : Jvm.MethodName) prog_17_method_1_code (0 : Nat) (Option.some (Jvm.ClassFile.FieldType.array (Jvm.ClassFile.FieldType.object "com/example/leanweave/leanweave/Objective")))).before args0 about1 = true := code_word (m := ⟨7, 0⟩) (meth := k7m0) (c := k7c0) (by decide +kernel) rfl rfl rfl (by decide +kernel)
set_option maxRecDepth 65536 in
theorem w_c3 : (Jvm.Cond.code ({ cls := "java/util/Optional", name := "of", desc := "(Ljava/lang/Object;)Ljava/util/Optional;" } : Jvm.MethodName) jdk_32_method_3_code (1 : Nat) (Option.some (Jvm.ClassFile.FieldType.object "java/util/Optional"))).before args0 about1 = true := code_word (m := ⟨9, 2⟩) (meth := k9m2) (c := k9c2) (by decide +kernel) rfl rfl rfl (by decide +kernel)
set_option maxRecDepth 65536 in
theorem w_c4 : (Jvm.Cond.code ({ cls := "java/util/Objects", name := "requireNonNull", desc := "(Ljava/lang/Object;)Ljava/lang/Object;" } : Jvm.MethodName) jdk_31_method_10_code (1 : Nat) (Option.some (Jvm.ClassFile.FieldType.object "java/lang/Object"))).before args0 about1 = true := code_word (m := ⟨10, 1⟩) (meth := k10m1) (c := k10c1) (by decide +kernel) rfl rfl rfl (by decide +kernel)
set_option maxRecDepth 65536 in
theorem w_c5 : (Jvm.Cond.code ({ cls := "java/util/Optional", name := "<init>", desc := "(Ljava/lang/Object;)V" } : Jvm.MethodName) jdk_32_method_2_code (2 : Nat) (Option.none : Option Jvm.ClassFile.FieldType)).before args0 about1 = true := code_word (m := ⟨9, 1⟩) (meth := k9m1) (c := k9c1) (by decide +kernel) rfl rfl rfl (by decide +kernel)
set_option maxRecDepth 65536 in
theorem w_c6 : (Jvm.Cond.code ({ cls := "java/lang/Object", name := "<init>", desc := "()V" } : Jvm.MethodName) object_method_1_code (1 : Nat) (Option.none : Option Jvm.ClassFile.FieldType)).before args0 about1 = true := code_word (m := ⟨0, 0⟩) (meth := k0m0) (c := k0c0) (by decide +kernel) rfl rfl rfl (by decide +kernel)
set_option maxRecDepth 65536 in
theorem w_c7 : (Jvm.Cond.code ({ cls := "java/util/Optional", name := "orElse", desc := "(Ljava/lang/Object;)Ljava/lang/Object;" } : Jvm.MethodName) jdk_32_method_15_code (2 : Nat) (Option.some (Jvm.ClassFile.FieldType.object "java/lang/Object"))).before args0 about1 = true := code_word (m := ⟨9, 3⟩) (meth := k9m3) (c := k9c3) (by decide +kernel) rfl rfl rfl (by decide +kernel)
set_option maxRecDepth 65536 in
theorem w_c8 : (Jvm.Cond.code ({ cls := "java/util/Optional", name := "empty", desc := "()Ljava/util/Optional;" } : Jvm.MethodName) jdk_32_method_1_code (1 : Nat) (Option.some (Jvm.ClassFile.FieldType.object "java/util/Optional"))).before args0 about1 = true := code_word (m := ⟨9, 0⟩) (meth := k9m0) (c := k9c0) (by decide +kernel) rfl rfl rfl (by decide +kernel)
def codes1 : List Jvm.Cond := [Jvm.Cond.code x code maxLocals ret, Jvm.Cond.code ({ cls := "com/example/leanweave/leanweave/Objective", name := "seeking", desc := "(Lcom/example/leanweave/leanweave/QosMeasure;)Ljava/util/Optional;" } : Jvm.MethodName) prog_17_method_6_code (5 : Nat) (Option.some (Jvm.ClassFile.FieldType.object "java/util/Optional")), Jvm.Cond.code ({ cls := "com/example/leanweave/leanweave/Objective", name := "values", desc := "()[Lcom/example/leanweave/leanweave/Objective;" } : Jvm.MethodName) prog_17_method_1_code (0 : Nat) (Option.some (Jvm.ClassFile.FieldType.array (Jvm.ClassFile.FieldType.object "com/example/leanweave/leanweave/Objective"))), Jvm.Cond.code ({ cls := "java/util/Optional", name := "of", desc := "(Ljava/lang/Object;)Ljava/util/Optional;" } : Jvm.MethodName) jdk_32_method_3_code (1 : Nat) (Option.some (Jvm.ClassFile.FieldType.object "java/util/Optional")), Jvm.Cond.code ({ cls := "java/util/Objects", name := "requireNonNull", desc := "(Ljava/lang/Object;)Ljava/lang/Object;" } : Jvm.MethodName) jdk_31_method_10_code (1 : Nat) (Option.some (Jvm.ClassFile.FieldType.object "java/lang/Object")), Jvm.Cond.code ({ cls := "java/util/Optional", name := "<init>", desc := "(Ljava/lang/Object;)V" } : Jvm.MethodName) jdk_32_method_2_code (2 : Nat) (Option.none : Option Jvm.ClassFile.FieldType), Jvm.Cond.code ({ cls := "java/lang/Object", name := "<init>", desc := "()V" } : Jvm.MethodName) object_method_1_code (1 : Nat) (Option.none : Option Jvm.ClassFile.FieldType), Jvm.Cond.code ({ cls := "java/util/Optional", name := "orElse", desc := "(Ljava/lang/Object;)Ljava/lang/Object;" } : Jvm.MethodName) jdk_32_method_15_code (2 : Nat) (Option.some (Jvm.ClassFile.FieldType.object "java/lang/Object")), Jvm.Cond.code ({ cls := "java/util/Optional", name := "empty", desc := "()Ljava/util/Optional;" } : Jvm.MethodName) jdk_32_method_1_code (1 : Nat) (Option.some (Jvm.ClassFile.FieldType.object "java/util/Optional"))]
set_option maxRecDepth 65536 in
theorem codes_eq : words1.filter isCode = codes1 := rfl
theorem w_codes : ∀ c ∈ words1.filter isCode, c.before args0 about1 = true := by
  rw [codes_eq]
  intro c hc
  simp only [codes1, List.mem_cons, List.not_mem_nil, or_false] at hc
  rcases hc with rfl | rfl | rfl | rfl | rfl | rfl | rfl | rfl | rfl
  · exact w_c0
  · exact w_c1
  · exact w_c2
  · exact w_c3
  · exact w_c4
  · exact w_c5
  · exact w_c6
  · exact w_c7
  · exact w_c8
set_option maxRecDepth 65536 in
theorem w_t1 : (words1.take 24).all (fun c => isCode c || c.before args0 about1) = true := by decide +kernel
set_option maxRecDepth 65536 in
theorem w_t2 : ((words1.drop 24).take 24).all (fun c => isCode c || c.before args0 about1) = true := by decide +kernel
set_option maxRecDepth 65536 in
theorem w_t3 : ((words1.drop 24).drop 24).all (fun c => isCode c || c.before args0 about1) = true := by decide +kernel
theorem w_tables : (allAtoms (Jvm.Cond.code x code maxLocals ret :: tables_1)).before args0 about1 = true := by
  rw [allAtoms_all]
  show words1.all (fun c => c.before args0 about1) = true
  refine all_split ?_ w_codes
  rw [← List.take_append_drop 24 words1, List.all_append, w_t1, ← List.take_append_drop 24 (words1.drop 24), List.all_append, w_t2, w_t3]
  rfl
set_option maxRecDepth 65536 in
theorem w_rest : rest_1_c.before args0 about1 = true := by decide +kernel
set_option maxRecDepth 65536 in
theorem w_case : (Jvm.Cond.and given_1 narrow_1).before args0 about1 = true := by decide +kernel
theorem w_applies : (headSpec (Jvm.Cond.code x code maxLocals ret :: tables_1) room_1).applies x e0.platform about1 = true :=
  (Spec.applies_iff w_frames).mpr ⟨w_running, w_runnable, w_alone, w_named, w_hears, w_ripe, w_room, w_tables⟩
theorem atStart : AtStart classFile x code maxLocals ret World_1 tables_1 room_1 Calls_1 rest_1 Pre_1 launch0 p0 e0 about1 theMethod args0 below0 :=
  ⟨lists_1, trivial, launch0.admits_env _ _ _, launch0.least_env, fairChoices_fair.cas, fairChoices_fair.clock, w_frames, w_args, w_heap, w_applies, trivial, w_rest, w_case⟩
end start1
theorem witness_1 : WitnessClaimed_1 := ⟨start1.p0, start1.e0, start1.about1, start1.theMethod, start1.args0, start1.below0, start1.atStart⟩
end Jvm.Pilot.@@N@@
