import JvmDerived
import JvmDerived.Pilot.@@N@@Statement
import JvmDerived.Pilot.@@N@@Code
set_option linter.unusedVariables false
set_option linter.unusedSimpArgs false
namespace Jvm.RoadKit
open Sem ClassFile Op Lib Jvm.Stand Jvm.Free Jvm.LawKit
section New
variable {p : Program} {l : Launch} {e : Env} {R : Room} {s : State} {m : MethodId} {args : Array Value} {below : List Frame} {meth : Method} {c : Code} {T : State} {locs : List Loc} {cells slots : Nat}
theorem retI (X : Stand p l e R s m args below meth c T locs cells slots) (hx : p.tables.exec = Jvm.exec) {pc : Nat} {Ls : Array Slot} {z : Int32} {rest : List Value} (hret : meth.sig.returnType = some .int) (hd : decode c.code pc = .ok (.ireturn, 1)) {fs : List Frame}
    (hl : ∀ (f : JFrame) (acts : List Action), f.method = m → f.locked = none → f.entered = [] → (doReturn e (T.setTop f) acts (some (.int z))).1 = T.setFrames fs) : Steps p.tables e below (T.setTop (mkF m pc Ls (.int z :: rest))) (T.setFrames fs) :=
  retOut X hx hret rfl (Or.inl ⟨rfl, Or.inl rfl, z, rfl⟩) hd hl
end New
end Jvm.RoadKit
namespace Jvm.Pilot.@@N@@
open Jvm Jvm.ClassFile Sem Op Lib Jvm.Free Jvm.Stand Jvm.LawKit Jvm.RoadKit Bundle Jvm.Pilot.@@N@@.Jvm.D
theorem own_selpriv {s : State} {args : Array Value} {y : MethodName} {n : Nat} (hins : (Jvm.Cond.instantiable y.cls n).before args s = true) (hpriv : (Jvm.Cond.privateMethod y).before args s = true) (hinst : (Jvm.Cond.instanceMethod y).before args s = true) (hy : y.cls ≠ "java/lang/invoke/MethodHandle" ∧ y.cls ≠ "java/lang/invoke/VarHandle") :
    (Jvm.Cond.selects y.cls y y).before args s = true := by
  obtain ⟨c, k, hc, hk, -, hniab, -, -⟩ := Cond.instantiable_spec hins
  have hni : k.isInterface = false := (Bool.or_eq_false_iff.mp hniab).1
  obtain ⟨mk, methM, hnamed, hmethM, -, -⟩ := Cond.instanceMethod_spec hinst
  have hfound : s.methodFound? y.cls y.name y.desc = some mk := State.methodFound?_of_named hnamed hy
  have hcls : mk.cls = c := Option.some.inj ((findClass_of_methodNamed hnamed).symm.trans hc)
  have hsel : selectMethod {} s.vm c mk = .method mk := selectMethod_private hmethM (Cond.privateMethod_at hpriv mk methM hnamed hmethM)
  simp only [Cond.before, Cond.holds, Cond.value, hc, hfound, hnamed, hsel, hcls, hk]
  simp; exact hni
theorem own_nsE {Z : State} {h : Heap} {a : Addr} {C : String} (F : Exa Z h a C) : ∀ c : Cell, h[a]? = some c → c.vm.isStatics = false := by
  obtain ⟨c, k, h1, -, -, h4, -⟩ := F
  intro c' hc; cases h1.symm.trans hc; exact h4
theorem own_nsV {Z : State} {h : Heap} {a : Addr} {k : ClassId} {ty : FieldType} {z : Int32} {vs : List Value} {dv : Value} (F : Arv Z h a k ty z vs dv) : ∀ c : Cell, h[a]? = some c → c.vm.isStatics = false := by
  obtain ⟨c, A, -⟩ := F
  intro c' hc; cases A.1.symm.trans hc; exact A.plain
theorem own_stakeep {Z : State} {h h' : Heap} {C n d : String} {v : Value} {ws : List Addr} (F : Sta Z h C n d v) (K : Keep h h' ws) (q : ∀ x ∈ ws, ∀ c : Cell, h[x]? = some c → c.vm.isStatics = false) : Sta Z h' C n d v := by
  obtain ⟨cf, i, k, f, st, cell, h1, h2, h3, h4, h5, h6, h7⟩ := F
  refine ⟨cf, i, k, f, st, cell, h1, h2, h3, h4, K.2.1 _ _ h5 (fun hm => ?_), h6, h7⟩
  rw [q st hm cell h5] at h6; cases h6
theorem own_ex {args : Array Value} {s : State} {t : Term} {C : String} (h : (Jvm.Cond.exactly t C).value args s none s [] = some true) : ∃ a, t.eval args s none [] s = some (.ref a) ∧ Exa s s.heap a C := by
  obtain ⟨a, e1⟩ := exa_v h; exact ⟨a, e1, Exa.start e1 h⟩
theorem own_evI {args : Array Value} {s : State} {t : Term} {z : Int32} (h : (Jvm.Cond.eq t (.int z)).value args s none s [] = some true) : t.eval args s none [] s = some (.int z) := by
  cases hv : t.eval args s none [] s with
  | none => simp [Cond.value, hv] at h
  | some x => cases x <;> simp [Cond.value, Term.eval, hv] at h ⊢; exact h
theorem own_evJ {args : Array Value} {s : State} {t : Term} {z : Int64} (h : (Jvm.Cond.eq t (.long z)).value args s none s [] = some true) : t.eval args s none [] s = some (.long z) := by
  cases hv : t.eval args s none [] s with
  | none => simp [Cond.value, hv] at h
  | some x => cases x <;> simp [Cond.value, Term.eval, hv] at h ⊢; exact h
theorem own_fldV {args : Array Value} {s : State} {t : Term} {a : Addr} {C n d : String} {v : Value} (ev : t.eval args s none [] s = some (.ref a)) (h : (Term.field t C n d).eval args s none [] s = some v) : Fld s s.heap a C n d v := by
  refine Fld.start ?_
  rw [← fld_at (args := args) (first := s) (o := none) (idx := []) ev]; exact h
theorem own_lt (a b : Int32) : a < b ↔ a.toInt < b.toInt := Int32.lt_iff_toInt_lt
theorem own_le (a b : Int32) : a ≤ b ↔ a.toInt ≤ b.toInt := Int32.le_iff_toInt_le
theorem own_eqi (a b : Int32) : a = b ↔ a.toInt = b.toInt := Int32.toInt_inj.symm
theorem own_ltL (a b : Int64) : a < b ↔ a.toInt < b.toInt := Int64.lt_iff_toInt_lt
theorem own_eqL (a b : Int64) : a = b ↔ a.toInt = b.toInt := Int64.toInt_inj.symm
theorem own_evR {args : Array Value} {s : State} {t u : Term} {a : Addr} (h : (Jvm.Cond.eq t u).value args s none s [] = some true) (hu : u.eval args s none [] s = some (.ref a)) : t.eval args s none [] s = some (.ref a) := by
  cases hv : t.eval args s none [] s with
  | none => simp [Cond.value, hv] at h
  | some x => cases x <;> simp [Cond.value, hu, hv] at h ⊢; exact h
theorem own_len {args : Array Value} {s : State} {t : Term} {a : Addr} {cl : Cell} {z : Int32} (ev : t.eval args s none [] s = some (.ref a)) (hc : s.arrayAt? a = some cl) (h : (Term.length t).eval args s none [] s = some (.int z)) : cl.slots.size < 2 ^ 31 ∧ cl.slots.size.toInt32 = z := by
  by_cases q : cl.slots.size < 2147483648
  · simp [Term.eval, ev, hc, q] at h; exact ⟨q, h⟩
  · simp [Term.eval, ev, hc, q] at h
theorem d1_0 : decode jdk_29_method_65_code 0 = .ok (.iload_n 0, 1) := by decide +kernel
theorem d1_1 : decode jdk_29_method_65_code 1 = .ok (.iload_n 1, 1) := by decide +kernel
theorem d1_2 : decode jdk_29_method_65_code 2 = .ok (.if_icmp .lt 7, 3) := by decide +kernel
theorem d1_5 : decode jdk_29_method_65_code 5 = .ok (.iload_n 0, 1) := by decide +kernel
theorem d1_6 : decode jdk_29_method_65_code 6 = .ok (.goto 4, 3) := by decide +kernel
theorem d1_9 : decode jdk_29_method_65_code 9 = .ok (.iload_n 1, 1) := by decide +kernel
theorem d1_10 : decode jdk_29_method_65_code 10 = .ok (.ireturn, 1) := by decide +kernel
theorem ef_1 (m : MethodId) (p1_0 : Int32) (p1_1 : Int32) : entryFrame m #[(.int p1_0), (.int p1_1)] 2 = mkF m 0 #[.val (.int p1_0), .val (.int p1_1)] [] := by first | (simp [entryFrame, mkF, argsToLocals, Value.category]; done) | rfl
def own_max (p1_0 : Int32) (p1_1 : Int32) : Int32 := (if p1_0 < p1_1 then p1_1 else p1_0)
def Q1 (Z : State) (p1_0 : Int32) (p1_1 : Int32) (h0 : Heap) (n0 : Nat) (v : Option Value) (h : Heap) (L : List Loc) : Prop := v = some (.int (own_max p1_0 p1_1)) ∧ Fr n0 L ∧ h = h0
set_option maxRecDepth 65536 in
set_option maxHeartbeats 40000000 in
theorem rm1 (l : Launch) (Z : State) (a0 : Array Value) (hw : ∀ d ∈ tables_1, d.before a0 Z = true) (ws : List Jvm.Cond) (p1_0 : Int32) (p1_1 : Int32) (h0 : Heap) (n0 : Nat) (Z0 : n0 ≤ h0.size) :
    MetFree l (⟨"java/lang/Math", "max", "(II)I"⟩ : MethodName) (head1 (Jvm.Cond.code (⟨"java/lang/Math", "max", "(II)I"⟩ : MethodName) jdk_29_method_65_code 2 (some .int) :: ws) ({ frames := 0, cells := 0, slots := 0, locals := 0 } : Room)) (fun a U => a = #[(.int p1_0), (.int p1_1)] ∧ Z.Warmed39 U.vm ∧ U.heap = h0) (fun _ _ _ _ _ => True) (fun _ U o U' => ∃ v L, o = .returned v ∧ Q1 Z p1_0 p1_1 h0 n0 v U'.heap L ∧ FrameEnd U o U' L ({ frames := 0, cells := 0, slots := 0, locals := 0 } : Room).cells ({ frames := 0, cells := 0, slots := 0, locals := 0 } : Room).slots) := by
  refine MetFree.of_bodySF (Jvm.Free.JP.mathPlain rfl (by decide +kernel)) hisR ?_
  intro p e s m args below meth c s₁ Bd hml0 hP hK
  obtain ⟨rfl, hZ, hh⟩ := hP
  have hx := Bd.exec
  have hby := Bd.bytes
  have hml : c.maxLocals = 2 := hml0
  have hown : s.vm.findClass "java/lang/Math" = some m.cls := findClass_of_methodNamed Bd.named
  have hnm := (name_of_methodNamed Bd.named Bd.method).1
  have X0 : Stand p l e ({ frames := 0, cells := 0, slots := 0, locals := 0 } : Room) s m #[(.int p1_0), (.int p1_1)] below meth c s₁ [] 0 0 := Stand.of_body Bd
  have e0 : s₁.heap = h0 := by rw [← hh, Bd.state]; rfl
  have N0 := Fr.nil n0
  have pre0 : ∀ t, Steps p.tables e below (s₁.setTop (mkF m 0 #[.val (.int p1_0), .val (.int p1_1)] [])) t → Steps p.tables e below (s₁.setTop (entryFrame m #[(.int p1_0), (.int p1_1)] 2)) t := fun t k => castTop (ef_1 m p1_0 p1_1) k
  have k1 : ∀ t, Steps p.tables e below (s₁.setTop (mkF m 2 #[.val (.int p1_0), .val (.int p1_1)] [(.int p1_1), (.int p1_0)])) t → Steps p.tables e below (s₁.setTop (entryFrame m #[(.int p1_0), (.int p1_1)] 2)) t := by
    intro t k
    refine pre0 t ?_
    show Steps p.tables e below (s₁.setTop (mkF m 0 #[.val (.int p1_0), .val (.int p1_1)] [])) _
    refine XS.iloadN X0.here hx rfl (hb hby d1_0) rfl ?_
    show Steps p.tables e below (s₁.setTop (mkF m 1 #[.val (.int p1_0), .val (.int p1_1)] [(.int p1_0)])) _
    refine XS.iloadN X0.here hx rfl (hb hby d1_1) rfl ?_
    exact k
  by_cases hc2_2 : p1_0 < p1_1
  · skip
    have k3 : ∀ t, Steps p.tables e below (s₁.setTop (mkF m 10 #[.val (.int p1_0), .val (.int p1_1)] [(.int p1_1)])) t → Steps p.tables e below (s₁.setTop (entryFrame m #[(.int p1_0), (.int p1_1)] 2)) t := by
      intro t k
      refine k1 t ?_
      show Steps p.tables e below (s₁.setTop (mkF m 2 #[.val (.int p1_0), .val (.int p1_1)] [(.int p1_1), (.int p1_0)])) _
      refine XS.icmpYes X0.here hx rfl (pc0 := 2) (pc' := 9) rfl (hb hby d1_2) rfl (tlt hc2_2).1 (by decide) (by decide) ?_
      show Steps p.tables e below (s₁.setTop (mkF m 9 #[.val (.int p1_0), .val (.int p1_1)] [])) _
      refine XS.iloadN X0.here hx rfl (hb hby d1_9) rfl ?_
      exact k
    obtain ⟨fs, hr, hrun, hended, hW, hsame⟩ := X0.leave (v := some (.int p1_1)) (fun h => by rw [Bd.returns] at h; cases h)
    refine ⟨_, _, k3 _ ?_, hrun, hended, _, _, rfl, ?_, ⟨_, rfl⟩, hW, hsame.mono (by decide) (by decide)⟩
    · exact retI X0 hx Bd.returns (hb hby d1_10) hr
    · show Q1 Z p1_0 p1_1 h0 n0 _ s₁.heap _
      rw [e0]
      exact ⟨congrArg (fun z => some (Value.int z)) (show (p1_1 : Int32) = own_max p1_0 p1_1 from by unfold own_max; rw [if_pos hc2_2]), N0, rfl⟩
  · skip
    have k4 : ∀ t, Steps p.tables e below (s₁.setTop (mkF m 10 #[.val (.int p1_0), .val (.int p1_1)] [(.int p1_0)])) t → Steps p.tables e below (s₁.setTop (entryFrame m #[(.int p1_0), (.int p1_1)] 2)) t := by
      intro t k
      refine k1 t ?_
      show Steps p.tables e below (s₁.setTop (mkF m 2 #[.val (.int p1_0), .val (.int p1_1)] [(.int p1_1), (.int p1_0)])) _
      refine XS.icmpNo X0.here hx rfl (hb hby d1_2) rfl (flt hc2_2).1 ?_
      show Steps p.tables e below (s₁.setTop (mkF m 5 #[.val (.int p1_0), .val (.int p1_1)] [])) _
      refine XS.iloadN X0.here hx rfl (hb hby d1_5) rfl ?_
      show Steps p.tables e below (s₁.setTop (mkF m 6 #[.val (.int p1_0), .val (.int p1_1)] [(.int p1_0)])) _
      refine XS.goto X0.here hx rfl (pc0 := 6) (pc' := 10) rfl (hb hby d1_6) (by decide) (by decide) ?_
      exact k
    obtain ⟨fs, hr, hrun, hended, hW, hsame⟩ := X0.leave (v := some (.int p1_0)) (fun h => by rw [Bd.returns] at h; cases h)
    refine ⟨_, _, k4 _ ?_, hrun, hended, _, _, rfl, ?_, ⟨_, rfl⟩, hW, hsame.mono (by decide) (by decide)⟩
    · exact retI X0 hx Bd.returns (hb hby d1_10) hr
    · show Q1 Z p1_0 p1_1 h0 n0 _ s₁.heap _
      rw [e0]
      exact ⟨congrArg (fun z => some (Value.int z)) (show (p1_0 : Int32) = own_max p1_0 p1_1 from by unfold own_max; rw [if_neg hc2_2]), N0, rfl⟩
theorem pn_0 : plainName "java/lang/Number" = true := by first | (simp [plainName, overriddenIn]; done) | decide +kernel
theorem d2_0 : decode jdk_18_method_1_code 0 = .ok (.aload_n 0, 1) := by decide +kernel
theorem d2_1 : decode jdk_18_method_1_code 1 = .ok (.invokespecial 1, 3) := by decide +kernel
theorem d2_4 : decode jdk_18_method_1_code 4 = .ok (.return_, 1) := by decide +kernel
theorem ef_2 (m : MethodId) (a2_0 : Addr) : entryFrame m #[(.ref a2_0)] 1 = mkF m 0 #[.val (.ref a2_0)] [] := by first | (simp [entryFrame, mkF, argsToLocals, Value.category]; done) | rfl
def Q2 (Z : State) (a2_0 : Addr) (h0 : Heap) (n0 : Nat) (v : Option Value) (h : Heap) (L : List Loc) : Prop := v = none ∧ Fr n0 L ∧ h = h0
set_option maxRecDepth 65536 in
set_option maxHeartbeats 40000000 in
theorem rm2 (l : Launch) (Z : State) (a0 : Array Value) (hw : ∀ d ∈ tables_1, d.before a0 Z = true) (ws : List Jvm.Cond) (a2_0 : Addr) (h0 : Heap) (n0 : Nat) (Z0 : n0 ≤ h0.size) :
    MetFree l (⟨"java/lang/Number", "<init>", "()V"⟩ : MethodName) (head1 (Jvm.Cond.code (⟨"java/lang/Number", "<init>", "()V"⟩ : MethodName) jdk_18_method_1_code 1 none :: ws) ({ frames := 1, cells := 0, slots := 0, locals := 12 } : Room)) (fun a U => a = #[(.ref a2_0)] ∧ Z.Warmed39 U.vm ∧ U.heap = h0) (fun _ _ _ _ _ => True) (fun _ U o U' => ∃ v L, o = .returned v ∧ Q2 Z a2_0 h0 n0 v U'.heap L ∧ FrameEnd U o U' L ({ frames := 1, cells := 0, slots := 0, locals := 12 } : Room).cells ({ frames := 1, cells := 0, slots := 0, locals := 12 } : Room).slots) := by
  refine MetFree.of_bodySF (plainFor_of_name pn_0) hisR ?_
  intro p e s m args below meth c s₁ Bd hml0 hP hK
  obtain ⟨rfl, hZ, hh⟩ := hP
  have hx := Bd.exec
  have hby := Bd.bytes
  have hml : c.maxLocals = 1 := hml0
  have hown : s.vm.findClass "java/lang/Number" = some m.cls := findClass_of_methodNamed Bd.named
  have hnm := (name_of_methodNamed Bd.named Bd.method).1
  have X0 : Stand p l e ({ frames := 1, cells := 0, slots := 0, locals := 12 } : Room) s m #[(.ref a2_0)] below meth c s₁ [] 0 0 := Stand.of_body Bd
  have e0 : s₁.heap = h0 := by rw [← hh, Bd.state]; rfl
  have N0 := Fr.nil n0
  have pre0 : ∀ t, Steps p.tables e below (s₁.setTop (mkF m 0 #[.val (.ref a2_0)] [])) t → Steps p.tables e below (s₁.setTop (entryFrame m #[(.ref a2_0)] 1)) t := fun t k => castTop (ef_2 m a2_0) k
  obtain ⟨T1, X1, e1, st1⟩ := initO X0 hx hZ hown (hw _ (List.mem_of_getElem? (i := 25) rfl)) (hw _ (List.mem_of_getElem? (i := 26) rfl)) (hw _ (List.mem_of_getElem? (i := 27) rfl)) e0 (g := (mkF m 1 #[.val (.ref a2_0)] [(.ref a2_0)])) rfl (by rw [hml]; rfl) rfl (hb hby d2_1) (by decide) (W := 0) (by show 2 * 0 + _ ≤ _; exact Nat.le_of_eq rfl) (by decide)
  have k2 : ∀ t, Steps p.tables e below (T1.setTop (mkF m 4 #[.val (.ref a2_0)] [])) t → Steps p.tables e below (s₁.setTop (entryFrame m #[(.ref a2_0)] 1)) t := by
    intro t k
    refine pre0 t ?_
    show Steps p.tables e below (s₁.setTop (mkF m 0 #[.val (.ref a2_0)] [])) _
    refine XS.aloadN X0.here hx rfl (hb hby d2_0) rfl rfl ?_
    show Steps p.tables e below (s₁.setTop (mkF m 1 #[.val (.ref a2_0)] [(.ref a2_0)])) _
    refine st1 _ ?_
    exact k
  obtain ⟨fs, hr, hrun, hended, hW, hsame⟩ := X1.leave (v := none) (fun _ => rfl)
  refine ⟨_, _, k2 _ ?_, hrun, hended, _, _, rfl, ?_, ⟨_, rfl⟩, hW, hsame.mono (by decide) (by decide)⟩
  · exact X1.returnOut hx Bd.returns (hb hby d2_4) hr
  · show Q2 Z a2_0 h0 n0 _ T1.heap _
    rw [e1]
    exact ⟨rfl, N0, rfl⟩
theorem pn_1 : plainName "java/lang/Record" = true := by first | (simp [plainName, overriddenIn]; done) | decide +kernel
theorem d3_0 : decode jdk_30_method_1_code 0 = .ok (.aload_n 0, 1) := by decide +kernel
theorem d3_1 : decode jdk_30_method_1_code 1 = .ok (.invokespecial 1, 3) := by decide +kernel
theorem d3_4 : decode jdk_30_method_1_code 4 = .ok (.return_, 1) := by decide +kernel
theorem ef_3 (m : MethodId) (a3_0 : Addr) : entryFrame m #[(.ref a3_0)] 1 = mkF m 0 #[.val (.ref a3_0)] [] := by first | (simp [entryFrame, mkF, argsToLocals, Value.category]; done) | rfl
def Q3 (Z : State) (a3_0 : Addr) (h0 : Heap) (n0 : Nat) (v : Option Value) (h : Heap) (L : List Loc) : Prop := v = none ∧ Fr n0 L ∧ h = h0
set_option maxRecDepth 65536 in
set_option maxHeartbeats 40000000 in
theorem rm3 (l : Launch) (Z : State) (a0 : Array Value) (hw : ∀ d ∈ tables_1, d.before a0 Z = true) (ws : List Jvm.Cond) (a3_0 : Addr) (h0 : Heap) (n0 : Nat) (Z0 : n0 ≤ h0.size) :
    MetFree l (⟨"java/lang/Record", "<init>", "()V"⟩ : MethodName) (head1 (Jvm.Cond.code (⟨"java/lang/Record", "<init>", "()V"⟩ : MethodName) jdk_30_method_1_code 1 none :: ws) ({ frames := 1, cells := 0, slots := 0, locals := 12 } : Room)) (fun a U => a = #[(.ref a3_0)] ∧ Z.Warmed39 U.vm ∧ U.heap = h0) (fun _ _ _ _ _ => True) (fun _ U o U' => ∃ v L, o = .returned v ∧ Q3 Z a3_0 h0 n0 v U'.heap L ∧ FrameEnd U o U' L ({ frames := 1, cells := 0, slots := 0, locals := 12 } : Room).cells ({ frames := 1, cells := 0, slots := 0, locals := 12 } : Room).slots) := by
  refine MetFree.of_bodySF (plainFor_of_name pn_1) hisR ?_
  intro p e s m args below meth c s₁ Bd hml0 hP hK
  obtain ⟨rfl, hZ, hh⟩ := hP
  have hx := Bd.exec
  have hby := Bd.bytes
  have hml : c.maxLocals = 1 := hml0
  have hown : s.vm.findClass "java/lang/Record" = some m.cls := findClass_of_methodNamed Bd.named
  have hnm := (name_of_methodNamed Bd.named Bd.method).1
  have X0 : Stand p l e ({ frames := 1, cells := 0, slots := 0, locals := 12 } : Room) s m #[(.ref a3_0)] below meth c s₁ [] 0 0 := Stand.of_body Bd
  have e0 : s₁.heap = h0 := by rw [← hh, Bd.state]; rfl
  have N0 := Fr.nil n0
  have pre0 : ∀ t, Steps p.tables e below (s₁.setTop (mkF m 0 #[.val (.ref a3_0)] [])) t → Steps p.tables e below (s₁.setTop (entryFrame m #[(.ref a3_0)] 1)) t := fun t k => castTop (ef_3 m a3_0) k
  obtain ⟨T1, X1, e1, st1⟩ := initO X0 hx hZ hown (hw _ (List.mem_of_getElem? (i := 38) rfl)) (hw _ (List.mem_of_getElem? (i := 26) rfl)) (hw _ (List.mem_of_getElem? (i := 27) rfl)) e0 (g := (mkF m 1 #[.val (.ref a3_0)] [(.ref a3_0)])) rfl (by rw [hml]; rfl) rfl (hb hby d3_1) (by decide) (W := 0) (by show 2 * 0 + _ ≤ _; exact Nat.le_of_eq rfl) (by decide)
  have k2 : ∀ t, Steps p.tables e below (T1.setTop (mkF m 4 #[.val (.ref a3_0)] [])) t → Steps p.tables e below (s₁.setTop (entryFrame m #[(.ref a3_0)] 1)) t := by
    intro t k
    refine pre0 t ?_
    show Steps p.tables e below (s₁.setTop (mkF m 0 #[.val (.ref a3_0)] [])) _
    refine XS.aloadN X0.here hx rfl (hb hby d3_0) rfl rfl ?_
    show Steps p.tables e below (s₁.setTop (mkF m 1 #[.val (.ref a3_0)] [(.ref a3_0)])) _
    refine st1 _ ?_
    exact k
  obtain ⟨fs, hr, hrun, hended, hW, hsame⟩ := X1.leave (v := none) (fun _ => rfl)
  refine ⟨_, _, k2 _ ?_, hrun, hended, _, _, rfl, ?_, ⟨_, rfl⟩, hW, hsame.mono (by decide) (by decide)⟩
  · exact X1.returnOut hx Bd.returns (hb hby d3_4) hr
  · show Q3 Z a3_0 h0 n0 _ T1.heap _
    rw [e1]
    exact ⟨rfl, N0, rfl⟩
theorem pn_2 : plainName "java/lang/Long" = true := by first | (simp [plainName, overriddenIn]; done) | decide +kernel
theorem pd_0 : parseMethodDescriptor "()V" = some ⟨[], none⟩ := by decide +kernel
theorem d4_0 : decode jdk_35_method_26_code 0 = .ok (.aload_n 0, 1) := by decide +kernel
theorem d4_1 : decode jdk_35_method_26_code 1 = .ok (.invokespecial 270, 3) := by decide +kernel
theorem d4_4 : decode jdk_35_method_26_code 4 = .ok (.aload_n 0, 1) := by decide +kernel
theorem d4_5 : decode jdk_35_method_26_code 5 = .ok (.lload_n 1, 1) := by decide +kernel
theorem d4_6 : decode jdk_35_method_26_code 6 = .ok (.putfield 273, 3) := by decide +kernel
theorem d4_9 : decode jdk_35_method_26_code 9 = .ok (.return_, 1) := by decide +kernel
theorem ef_4 (m : MethodId) (a4_0 : Addr) (q4_1 : Int64) : entryFrame m #[(.ref a4_0), (.long q4_1)] 3 = mkF m 0 #[.val (.ref a4_0), .val (.long q4_1), .second] [] := by first | (simp [entryFrame, mkF, argsToLocals, Value.category]; done) | rfl
def Q4 (Z : State) (a4_0 : Addr) (q4_1 : Int64) (h0 : Heap) (n0 : Nat) (v : Option Value) (h : Heap) (L : List Loc) : Prop := v = none ∧ Fr n0 L ∧ Keep h0 h [a4_0] ∧ Exa Z h a4_0 "java/lang/Long"
set_option maxRecDepth 65536 in
set_option maxHeartbeats 40000000 in
theorem rm4 (l : Launch) (Z : State) (a0 : Array Value) (hw : ∀ d ∈ tables_1, d.before a0 Z = true) (ws : List Jvm.Cond) (a4_0 : Addr) (q4_1 : Int64) (h0 : Heap) (n0 : Nat) (Z0 : n0 ≤ h0.size) (Ea : Exa Z h0 a4_0 "java/lang/Long") (Fv : Fld Z h0 a4_0 "java/lang/Long" "value" "J" (.long (0 : Int64))) (g_a4_0 : n0 ≤ a4_0) :
    MetFree l (⟨"java/lang/Long", "<init>", "(J)V"⟩ : MethodName) (head1 (Jvm.Cond.code (⟨"java/lang/Long", "<init>", "(J)V"⟩ : MethodName) jdk_35_method_26_code 3 none :: ws) ({ frames := 2, cells := 0, slots := 0, locals := 24 } : Room)) (fun a U => a = #[(.ref a4_0), (.long q4_1)] ∧ Z.Warmed39 U.vm ∧ U.heap = h0) (fun _ _ _ _ _ => True) (fun _ U o U' => ∃ v L, o = .returned v ∧ Q4 Z a4_0 q4_1 h0 n0 v U'.heap L ∧ FrameEnd U o U' L ({ frames := 2, cells := 0, slots := 0, locals := 24 } : Room).cells ({ frames := 2, cells := 0, slots := 0, locals := 24 } : Room).slots) := by
  refine MetFree.of_bodySF (plainFor_of_name pn_2) hisR ?_
  intro p e s m args below meth c s₁ Bd hml0 hP hK
  obtain ⟨rfl, hZ, hh⟩ := hP
  have hx := Bd.exec
  have hby := Bd.bytes
  have hml : c.maxLocals = 3 := hml0
  have hown : s.vm.findClass "java/lang/Long" = some m.cls := findClass_of_methodNamed Bd.named
  have hnm := (name_of_methodNamed Bd.named Bd.method).1
  have X0 : Stand p l e ({ frames := 2, cells := 0, slots := 0, locals := 24 } : Room) s m #[(.ref a4_0), (.long q4_1)] below meth c s₁ [] 0 0 := Stand.of_body Bd
  have e0 : s₁.heap = h0 := by rw [← hh, Bd.state]; rfl
  have N0 := Fr.nil n0
  have pre0 : ∀ t, Steps p.tables e below (s₁.setTop (mkF m 0 #[.val (.ref a4_0), .val (.long q4_1), .second] [])) t → Steps p.tables e below (s₁.setTop (entryFrame m #[(.ref a4_0), (.long q4_1)] 3)) t := fun t k => castTop (ef_4 m a4_0 q4_1) k
  obtain ⟨_, _, ⟨T1, L1, k1, n1⟩, -, X1, ⟨Lc1, hQ1, l1, y1, z1⟩, st1⟩ := X0.specialBack hx (y := (⟨"java/lang/Number", "<init>", "()V"⟩ : MethodName)) rfl hown (mvT hZ (hw _ (List.mem_of_getElem? (i := 19) rfl))) (mvT hZ (hw _ (List.mem_of_getElem? (i := 20) rfl))) (mvT hZ (hw _ (List.mem_of_getElem? (i := 24) rfl))) (by decide) (backOf (W := 0) (rm2 l Z a0 hw [] a4_0 h0 n0 Z0 ) hZ (hw _ (List.mem_of_getElem? (i := 24) rfl)) (hw _ (List.mem_of_getElem? (i := 23) rfl)) (by decide) (by decide)) (g := (mkF m 1 #[.val (.ref a4_0), .val (.long q4_1), .second] [(.ref a4_0)])) rfl (by rw [hml]; rfl) (Steps.refl _) (a := a4_0) (argsL := []) (rest := []) (lenOf pd_0 rfl) rfl (by show 2 * 0 + _ ≤ _; exact Nat.le_of_eq rfl) (hb hby d4_1) (fun _ _ => ⟨rfl, e0, (by decide : 0 + 0 ≤ _), (by decide : 0 + 0 ≤ _)⟩)
  dsimp only [Pt.U, Pt.locs, Pt.cells, Pt.slots] at X1 l1 y1 z1 st1 hQ1
  subst l1 y1 z1
  obtain ⟨rfl, N1q, eh1⟩ := hQ1
  have N1 := Fr.app N0 N1q
  obtain ⟨T2, h2, X2, e2, W2, st2⟩ := putF X1 hx hZ hown (host := "") (Or.inl (hw _ (List.mem_of_getElem? (i := 28) rfl))) Via.refl eh1 Fv Ea (Or.inr ⟨(hw _ (List.mem_of_getElem? (i := 29) rfl)), rfl, hnm⟩) (hw _ (List.mem_of_getElem? (i := 14) rfl)) (ty := .long) (by decide) rfl rfl (g := (mkF m 6 #[.val (.ref a4_0), .val (.long q4_1), .second] [(.long q4_1), (.ref a4_0)])) rfl rfl (hb hby d4_6)
  have Fw2 : Fld Z h2 a4_0 "java/lang/Long" "value" "J" (.long q4_1) := Fv.same W2
  have F3 : Exa Z h2 a4_0 "java/lang/Long" := Ea.wr W2
  have N2 := Fr.snoc X2 N1 g_a4_0
  have K2 : Keep h0 h2 [a4_0] := (Keep.refl h0 [a4_0]).wr W2 (Or.inl (List.mem_of_getElem? (i := 0) rfl))
  have Zs2 : n0 ≤ h2.size := by rw [W2.size]; exact Z0
  have k5 : ∀ t, Steps p.tables e below (T2.setTop (mkF m 9 #[.val (.ref a4_0), .val (.long q4_1), .second] [])) t → Steps p.tables e below (s₁.setTop (entryFrame m #[(.ref a4_0), (.long q4_1)] 3)) t := by
    intro t k
    refine pre0 t ?_
    show Steps p.tables e below (s₁.setTop (mkF m 0 #[.val (.ref a4_0), .val (.long q4_1), .second] [])) _
    refine XS.aloadN X0.here hx rfl (hb hby d4_0) rfl rfl ?_
    show Steps p.tables e below (s₁.setTop (mkF m 1 #[.val (.ref a4_0), .val (.long q4_1), .second] [(.ref a4_0)])) _
    refine st1.trans ?_
    show Steps p.tables e below (T1.setTop (mkF m 4 #[.val (.ref a4_0), .val (.long q4_1), .second] [])) _
    refine XS.aloadN X1.here hx rfl (hb hby d4_4) rfl rfl ?_
    show Steps p.tables e below (T1.setTop (mkF m 5 #[.val (.ref a4_0), .val (.long q4_1), .second] [(.ref a4_0)])) _
    refine XS.lloadN X1.here hx rfl (hb hby d4_5) rfl ?_
    show Steps p.tables e below (T1.setTop (mkF m 6 #[.val (.ref a4_0), .val (.long q4_1), .second] [(.long q4_1), (.ref a4_0)])) _
    refine st2 _ ?_
    exact k
  obtain ⟨fs, hr, hrun, hended, hW, hsame⟩ := X2.leave (v := none) (fun _ => rfl)
  refine ⟨_, _, k5 _ ?_, hrun, hended, _, _, rfl, ?_, ⟨_, rfl⟩, hW, hsame.mono (by decide) (by decide)⟩
  · exact X2.returnOut hx Bd.returns (hb hby d4_9) hr
  · show Q4 Z a4_0 q4_1 h0 n0 _ T2.heap _
    rw [e2]
    exact ⟨rfl, N2, K2, F3⟩
theorem own_subf {args : Array Value} {s : State} {a b : Term} {idx : List Nat} {x y : Int32} (ha : a.eval args s none idx s = some (.int x)) (hb : b.eval args s none idx s = some (.int y)) : (Term.sub a b).eval args s none idx s = some (.int (x - y)) := by simp [Term.eval, ha, hb]
theorem own_i2lf {args : Array Value} {s : State} {a : Term} {idx : List Nat} {x : Int32} (ha : a.eval args s none idx s = some (.int x)) : (Term.op1 .i2l a).eval args s none idx s = some (.long x.toInt64) := op1_f ha
theorem own_laddf {args : Array Value} {s : State} {a b : Term} {idx : List Nat} {x y : Int64} (ha : a.eval args s none idx s = some (.long x)) (hb : b.eval args s none idx s = some (.long y)) : (Term.op2 .ladd a b).eval args s none idx s = some (.long (x + y)) := op2_f ha hb

theorem own_cidx (q : Int64) (h1 : ¬ q < (-128 : Int64)) (h2 : ¬ (127 : Int64) < q) : ¬ ((q.toInt32 + (128 : Int32)) < 0) ∧ (q.toInt32 + (128 : Int32)) < (256 : Int32) := by
  have c1 := c_l2i q
  have c2 := c_iadd q.toInt32 128
  have r1 := rng32 q.toInt32
  have r2 := rng32 (q.toInt32 + 128)
  rw [show (128 : Int32).toInt = 128 from rfl] at c2
  simp only [own_lt, own_ltL, Int32.reduceToInt, Int64.reduceToInt] at *
  omega
theorem pd_1 : parseMethodDescriptor "(J)V" = some ⟨[.long], none⟩ := by decide +kernel
theorem d5_0 : decode jdk_35_method_24_code 0 = .ok (.sipush 128, 3) := by decide +kernel
theorem d5_3 : decode jdk_35_method_24_code 3 = .ok (.istore_n 2, 1) := by decide +kernel
theorem d5_4 : decode jdk_35_method_24_code 4 = .ok (.lload_n 0, 1) := by decide +kernel
theorem d5_5 : decode jdk_35_method_24_code 5 = .ok (.ldc2_w 230, 3) := by decide +kernel
theorem d5_8 : decode jdk_35_method_24_code 8 = .ok (.lcmp, 1) := by decide +kernel
theorem d5_9 : decode jdk_35_method_24_code 9 = .ok (.ifCond .lt 22, 3) := by decide +kernel
theorem d5_12 : decode jdk_35_method_24_code 12 = .ok (.lload_n 0, 1) := by decide +kernel
theorem d5_13 : decode jdk_35_method_24_code 13 = .ok (.ldc2_w 232, 3) := by decide +kernel
theorem d5_16 : decode jdk_35_method_24_code 16 = .ok (.lcmp, 1) := by decide +kernel
theorem d5_17 : decode jdk_35_method_24_code 17 = .ok (.ifCond .gt 14, 3) := by decide +kernel
theorem d5_20 : decode jdk_35_method_24_code 20 = .ok (.getstatic 234, 3) := by decide +kernel
theorem d5_23 : decode jdk_35_method_24_code 23 = .ok (.lload_n 0, 1) := by decide +kernel
theorem d5_24 : decode jdk_35_method_24_code 24 = .ok (.l2i, 1) := by decide +kernel
theorem d5_25 : decode jdk_35_method_24_code 25 = .ok (.sipush 128, 3) := by decide +kernel
theorem d5_28 : decode jdk_35_method_24_code 28 = .ok (.iadd, 1) := by decide +kernel
theorem d5_29 : decode jdk_35_method_24_code 29 = .ok (.aaload, 1) := by decide +kernel
theorem d5_30 : decode jdk_35_method_24_code 30 = .ok (.areturn, 1) := by decide +kernel
theorem d5_31 : decode jdk_35_method_24_code 31 = .ok (.new 1, 3) := by decide +kernel
theorem d5_34 : decode jdk_35_method_24_code 34 = .ok (.dup, 1) := by decide +kernel
theorem d5_35 : decode jdk_35_method_24_code 35 = .ok (.lload_n 0, 1) := by decide +kernel
theorem d5_36 : decode jdk_35_method_24_code 36 = .ok (.invokespecial 240, 3) := by decide +kernel
theorem d5_39 : decode jdk_35_method_24_code 39 = .ok (.areturn, 1) := by decide +kernel
theorem ef_5 (m : MethodId) (q5_0 : Int64) : entryFrame m #[(.long q5_0)] 3 = mkF m 0 #[.val (.long q5_0), .second, .unset] [] := by first | (simp [entryFrame, mkF, argsToLocals, Value.category]; done) | rfl
def Q5 (Z : State) (q5_0 : Int64) (u_cache : Addr) (cl_cache : Cell) (h0 : Heap) (n0 : Nat) (v : Option Value) (h : Heap) (L : List Loc) : Prop := ∃ b5 : Nat, v = some (.ref b5) ∧ Fr n0 L ∧ Keep h0 h []
set_option maxRecDepth 65536 in
set_option maxHeartbeats 40000000 in
theorem rm5 (l : Launch) (Z : State) (a0 : Array Value) (hw : ∀ d ∈ tables_1, d.before a0 Z = true) (ws : List Jvm.Cond) (q5_0 : Int64) (u_cache : Addr) (cl_cache : Cell) (h0 : Heap) (n0 : Nat) (Z0 : n0 ≤ h0.size) (Sc : Sta Z h0 "java/lang/Long$LongCache" "cache" "[Ljava/lang/Long;" (.ref u_cache)) (Ac : Arr Z h0 u_cache cl_cache (.object "java/lang/Long")) (hsz : cl_cache.slots.size = (256 : Int32).toNatClampNeg) (hall : ∀ j : Int32, ¬ (j < 0 ∨ cl_cache.slots.size ≤ j.toNatClampNeg) → ∃ x : Addr, cl_cache.slots[j.toNatClampNeg]? = some (.ref x)) :
    MetFree l (⟨"java/lang/Long", "valueOf", "(J)Ljava/lang/Long;"⟩ : MethodName) (head1 (Jvm.Cond.code (⟨"java/lang/Long", "valueOf", "(J)Ljava/lang/Long;"⟩ : MethodName) jdk_35_method_24_code 3 (some (.object "java/lang/Long")) :: ws) ({ frames := 3, cells := 1, slots := 1, locals := 39 } : Room)) (fun a U => a = #[(.long q5_0)] ∧ Z.Warmed39 U.vm ∧ U.heap = h0) (fun _ _ _ _ _ => True) (fun _ U o U' => ∃ v L, o = .returned v ∧ Q5 Z q5_0 u_cache cl_cache h0 n0 v U'.heap L ∧ FrameEnd U o U' L ({ frames := 3, cells := 1, slots := 1, locals := 39 } : Room).cells ({ frames := 3, cells := 1, slots := 1, locals := 39 } : Room).slots) := by
  refine MetFree.of_bodySF (plainFor_of_name pn_2) hisR ?_
  intro p e s m args below meth c s₁ Bd hml0 hP hK
  obtain ⟨rfl, hZ, hh⟩ := hP
  have hx := Bd.exec
  have hby := Bd.bytes
  have hml : c.maxLocals = 3 := hml0
  have hown : s.vm.findClass "java/lang/Long" = some m.cls := findClass_of_methodNamed Bd.named
  have hnm := (name_of_methodNamed Bd.named Bd.method).1
  have X0 : Stand p l e ({ frames := 3, cells := 1, slots := 1, locals := 39 } : Room) s m #[(.long q5_0)] below meth c s₁ [] 0 0 := Stand.of_body Bd
  have e0 : s₁.heap = h0 := by rw [← hh, Bd.state]; rfl
  have N0 := Fr.nil n0
  have pre0 : ∀ t, Steps p.tables e below (s₁.setTop (mkF m 0 #[.val (.long q5_0), .second, .unset] [])) t → Steps p.tables e below (s₁.setTop (entryFrame m #[(.long q5_0)] 3)) t := fun t k => castTop (ef_5 m q5_0) k
  have k1 : ∀ t, Steps p.tables e below (s₁.setTop (mkF m 9 #[.val (.long q5_0), .second, .val (.int (128 : Int32))] [(.int (lcmpW q5_0 (-128 : Int64)))])) t → Steps p.tables e below (s₁.setTop (entryFrame m #[(.long q5_0)] 3)) t := by
    intro t k
    refine pre0 t ?_
    show Steps p.tables e below (s₁.setTop (mkF m 0 #[.val (.long q5_0), .second, .unset] [])) _
    refine XS.sipush X0.here hx rfl (hb hby d5_0) ?_
    show Steps p.tables e below (s₁.setTop (mkF m 3 #[.val (.long q5_0), .second, .unset] [(.int (128 : Int32))])) _
    refine XS.istoreN X0.here hx rfl (hb hby d5_3) rfl (l' := #[.val (.long q5_0), .second, .val (.int (128 : Int32))]) rfl ?_
    show Steps p.tables e below (s₁.setTop (mkF m 4 #[.val (.long q5_0), .second, .val (.int (128 : Int32))] [])) _
    refine XS.lloadN X0.here hx rfl (hb hby d5_4) rfl ?_
    show Steps p.tables e below (s₁.setTop (mkF m 5 #[.val (.long q5_0), .second, .val (.int (128 : Int32))] [(.long q5_0)])) _
    refine X0.ldc2Long hx hown (mvT hZ (hw _ (List.mem_of_getElem? (i := 12) rfl))) (g := (mkF m 5 #[.val (.long q5_0), .second, .val (.int (128 : Int32))] [(.long q5_0)])) rfl (hb hby d5_5) _ ?_
    show Steps p.tables e below (s₁.setTop (mkF m 8 #[.val (.long q5_0), .second, .val (.int (128 : Int32))] [(.long (-128 : Int64)), (.long q5_0)])) _
    refine XS.lcmp X0.here hx rfl (hb hby d5_8) rfl ?_
    exact k
  by_cases hc9_2 : q5_0 < (-128 : Int64)
  · skip
    obtain ⟨b3, g3⟩ : ∃ z, z = h0.size := ⟨_, rfl⟩
    obtain ⟨T3, h3, X3, e3, E3, A3, D3, -, st3⟩ := newO X0 hx hZ hown (hw _ (List.mem_of_getElem? (i := 13) rfl)) (hw _ (List.mem_of_getElem? (i := 14) rfl)) (hw _ (List.mem_of_getElem? (i := 10) rfl)) e0 (g := (mkF m 31 #[.val (.long q5_0), .second, .val (.int (128 : Int32))] [])) rfl (hb hby d5_31) (by decide) (by decide)
    rw [← g3] at A3 D3 st3
    have ne4 : u_cache ≠ b3 := Nat.ne_of_lt (Nat.lt_of_lt_of_le Ac.lt (Nat.le_of_eq g3.symm))
    have gg3 : n0 ≤ b3 := Nat.le_trans Z0 (Nat.le_of_eq g3.symm)
    have sz3 : h0.size ≤ b3 := Nat.le_trans (Keep.refl h0 []).1 (Nat.le_of_eq g3.symm)
    have Zs3 : n0 ≤ h3.size := Nat.le_trans Z0 E3.1
    have K3 : Keep h0 h3 [] := (Keep.refl h0 []).ext E3
    have F5 : Sta Z h3 "java/lang/Long$LongCache" "cache" "[Ljava/lang/Long;" (.ref u_cache) := Sc.ext E3
    have F6 : Arr Z h3 u_cache cl_cache (.object "java/lang/Long") := Ac.ext E3
    have F7 : Fld Z h3 b3 "java/lang/Long" "value" "J" (.long (0 : Int64)) := D3 (Or.inr (hw _ (List.mem_of_getElem? (i := 29) rfl))) (ty := .long) (by decide)
    obtain ⟨_, _, ⟨T8, L8, k8, n8⟩, -, X8, ⟨Lc8, hQ8, l8, y8, z8⟩, st8⟩ := X3.specialBack hx (y := (⟨"java/lang/Long", "<init>", "(J)V"⟩ : MethodName)) rfl hown (mvT hZ (hw _ (List.mem_of_getElem? (i := 15) rfl))) (mvT hZ (hw _ (List.mem_of_getElem? (i := 16) rfl))) (mvT hZ (hw _ (List.mem_of_getElem? (i := 18) rfl))) (by decide) (backOf (W := 1) (rm4 l Z a0 hw [] b3 q5_0 h3 n0 Zs3 A3 F7 gg3) hZ (hw _ (List.mem_of_getElem? (i := 18) rfl)) (hw _ (List.mem_of_getElem? (i := 10) rfl)) (by decide) (by decide)) (g := (mkF m 36 #[.val (.long q5_0), .second, .val (.int (128 : Int32))] [(.long q5_0), (.ref b3), (.ref b3)])) rfl (by rw [hml]; rfl) (Steps.refl _) (a := b3) (argsL := [(.long q5_0)]) (rest := [(.ref b3)]) (lenOf pd_1 rfl) rfl (by show 2 * 0 + _ ≤ _; exact Nat.le_of_eq rfl) (hb hby d5_36) (fun _ _ => ⟨rfl, e3, (by decide : 1 + 0 ≤ _), (by decide : 1 + 0 ≤ _)⟩)
    dsimp only [Pt.U, Pt.locs, Pt.cells, Pt.slots] at X8 l8 y8 z8 st8 hQ8
    subst l8 y8 z8
    obtain ⟨rfl, N8q, Kc8, G8_0⟩ := hQ8
    have Zs8 : n0 ≤ T8.heap.size := Nat.le_trans Zs3 Kc8.1
    have K8 : Keep h0 T8.heap [] := K3.trans Kc8 (allS (Or.inr sz3) all0)
    have F9 : Sta Z T8.heap "java/lang/Long$LongCache" "cache" "[Ljava/lang/Long;" (.ref u_cache) := own_stakeep F5 Kc8 (allS (own_nsE A3) all0)
    have F10 : Arr Z T8.heap u_cache cl_cache (.object "java/lang/Long") := ⟨Kc8.2.1 _ _ F6.1 (ninS ne4 nin0), F6.2⟩
    have N8 := Fr.app N0 N8q
    have k12 : ∀ t, Steps p.tables e below (T8.setTop (mkF m 39 #[.val (.long q5_0), .second, .val (.int (128 : Int32))] [(.ref b3)])) t → Steps p.tables e below (s₁.setTop (entryFrame m #[(.long q5_0)] 3)) t := by
      intro t k
      refine k1 t ?_
      show Steps p.tables e below (s₁.setTop (mkF m 9 #[.val (.long q5_0), .second, .val (.int (128 : Int32))] [(.int (lcmpW q5_0 (-128 : Int64)))])) _
      refine XS.ifYes X0.here hx rfl (pc0 := 9) (pc' := 31) rfl (hb hby d5_9) rfl ((if0 _ _).trans (tlt ((lw_lt _ _).mpr hc9_2)).1) (by decide) (by decide) ?_
      show Steps p.tables e below (s₁.setTop (mkF m 31 #[.val (.long q5_0), .second, .val (.int (128 : Int32))] [])) _
      refine st3 _ ?_
      show Steps p.tables e below (T3.setTop (mkF m 34 #[.val (.long q5_0), .second, .val (.int (128 : Int32))] [(.ref b3)])) _
      refine XS.dup X3.here hx rfl (hb hby d5_34) rfl rfl ?_
      show Steps p.tables e below (T3.setTop (mkF m 35 #[.val (.long q5_0), .second, .val (.int (128 : Int32))] [(.ref b3), (.ref b3)])) _
      refine XS.lloadN X3.here hx rfl (hb hby d5_35) rfl ?_
      show Steps p.tables e below (T3.setTop (mkF m 36 #[.val (.long q5_0), .second, .val (.int (128 : Int32))] [(.long q5_0), (.ref b3), (.ref b3)])) _
      refine st8.trans ?_
      exact k
    obtain ⟨fs, hr, hrun, hended, hW, hsame⟩ := X8.leave (v := some (.ref b3)) (fun h => by rw [Bd.returns] at h; cases h)
    refine ⟨_, _, k12 _ ?_, hrun, hended, _, _, rfl, ?_, ⟨_, rfl⟩, hW, hsame.mono (by decide) (by decide)⟩
    · exact retOut X8 hx Bd.returns rfl (Or.inr (Or.inr (Or.inr (Or.inr ⟨rfl, rfl, rfl⟩)))) (hb hby d5_39) hr
    · show Q5 Z q5_0 u_cache cl_cache h0 n0 _ T8.heap _
      exact ⟨b3, rfl, N8, K8⟩
  · skip
    have k13 : ∀ t, Steps p.tables e below (s₁.setTop (mkF m 17 #[.val (.long q5_0), .second, .val (.int (128 : Int32))] [(.int (lcmpW q5_0 (127 : Int64)))])) t → Steps p.tables e below (s₁.setTop (entryFrame m #[(.long q5_0)] 3)) t := by
      intro t k
      refine k1 t ?_
      show Steps p.tables e below (s₁.setTop (mkF m 9 #[.val (.long q5_0), .second, .val (.int (128 : Int32))] [(.int (lcmpW q5_0 (-128 : Int64)))])) _
      refine XS.ifNo X0.here hx rfl (hb hby d5_9) rfl ((if0 _ _).trans (flt (fun q => absurd ((lw_lt _ _).mp q) hc9_2)).1) ?_
      show Steps p.tables e below (s₁.setTop (mkF m 12 #[.val (.long q5_0), .second, .val (.int (128 : Int32))] [])) _
      refine XS.lloadN X0.here hx rfl (hb hby d5_12) rfl ?_
      show Steps p.tables e below (s₁.setTop (mkF m 13 #[.val (.long q5_0), .second, .val (.int (128 : Int32))] [(.long q5_0)])) _
      refine X0.ldc2Long hx hown (mvT hZ (hw _ (List.mem_of_getElem? (i := 60) rfl))) (g := (mkF m 13 #[.val (.long q5_0), .second, .val (.int (128 : Int32))] [(.long q5_0)])) rfl (hb hby d5_13) _ ?_
      show Steps p.tables e below (s₁.setTop (mkF m 16 #[.val (.long q5_0), .second, .val (.int (128 : Int32))] [(.long (127 : Int64)), (.long q5_0)])) _
      refine XS.lcmp X0.here hx rfl (hb hby d5_16) rfl ?_
      exact k
    by_cases hc17_14 : (127 : Int64) < q5_0
    · skip
      obtain ⟨b15, g15⟩ : ∃ z, z = h0.size := ⟨_, rfl⟩
      obtain ⟨T15, h15, X15, e15, E15, A15, D15, -, st15⟩ := newO X0 hx hZ hown (hw _ (List.mem_of_getElem? (i := 13) rfl)) (hw _ (List.mem_of_getElem? (i := 14) rfl)) (hw _ (List.mem_of_getElem? (i := 10) rfl)) e0 (g := (mkF m 31 #[.val (.long q5_0), .second, .val (.int (128 : Int32))] [])) rfl (hb hby d5_31) (by decide) (by decide)
      rw [← g15] at A15 D15 st15
      have ne16 : u_cache ≠ b15 := Nat.ne_of_lt (Nat.lt_of_lt_of_le Ac.lt (Nat.le_of_eq g15.symm))
      have gg15 : n0 ≤ b15 := Nat.le_trans Z0 (Nat.le_of_eq g15.symm)
      have sz15 : h0.size ≤ b15 := Nat.le_trans (Keep.refl h0 []).1 (Nat.le_of_eq g15.symm)
      have Zs15 : n0 ≤ h15.size := Nat.le_trans Z0 E15.1
      have K15 : Keep h0 h15 [] := (Keep.refl h0 []).ext E15
      have F17 : Sta Z h15 "java/lang/Long$LongCache" "cache" "[Ljava/lang/Long;" (.ref u_cache) := Sc.ext E15
      have F18 : Arr Z h15 u_cache cl_cache (.object "java/lang/Long") := Ac.ext E15
      have F19 : Fld Z h15 b15 "java/lang/Long" "value" "J" (.long (0 : Int64)) := D15 (Or.inr (hw _ (List.mem_of_getElem? (i := 29) rfl))) (ty := .long) (by decide)
      obtain ⟨_, _, ⟨T20, L20, k20, n20⟩, -, X20, ⟨Lc20, hQ20, l20, y20, z20⟩, st20⟩ := X15.specialBack hx (y := (⟨"java/lang/Long", "<init>", "(J)V"⟩ : MethodName)) rfl hown (mvT hZ (hw _ (List.mem_of_getElem? (i := 15) rfl))) (mvT hZ (hw _ (List.mem_of_getElem? (i := 16) rfl))) (mvT hZ (hw _ (List.mem_of_getElem? (i := 18) rfl))) (by decide) (backOf (W := 1) (rm4 l Z a0 hw [] b15 q5_0 h15 n0 Zs15 A15 F19 gg15) hZ (hw _ (List.mem_of_getElem? (i := 18) rfl)) (hw _ (List.mem_of_getElem? (i := 10) rfl)) (by decide) (by decide)) (g := (mkF m 36 #[.val (.long q5_0), .second, .val (.int (128 : Int32))] [(.long q5_0), (.ref b15), (.ref b15)])) rfl (by rw [hml]; rfl) (Steps.refl _) (a := b15) (argsL := [(.long q5_0)]) (rest := [(.ref b15)]) (lenOf pd_1 rfl) rfl (by show 2 * 0 + _ ≤ _; exact Nat.le_of_eq rfl) (hb hby d5_36) (fun _ _ => ⟨rfl, e15, (by decide : 1 + 0 ≤ _), (by decide : 1 + 0 ≤ _)⟩)
      dsimp only [Pt.U, Pt.locs, Pt.cells, Pt.slots] at X20 l20 y20 z20 st20 hQ20
      subst l20 y20 z20
      obtain ⟨rfl, N20q, Kc20, G20_0⟩ := hQ20
      have Zs20 : n0 ≤ T20.heap.size := Nat.le_trans Zs15 Kc20.1
      have K20 : Keep h0 T20.heap [] := K15.trans Kc20 (allS (Or.inr sz15) all0)
      have F21 : Sta Z T20.heap "java/lang/Long$LongCache" "cache" "[Ljava/lang/Long;" (.ref u_cache) := own_stakeep F17 Kc20 (allS (own_nsE A15) all0)
      have F22 : Arr Z T20.heap u_cache cl_cache (.object "java/lang/Long") := ⟨Kc20.2.1 _ _ F18.1 (ninS ne16 nin0), F18.2⟩
      have N20 := Fr.app N0 N20q
      have k24 : ∀ t, Steps p.tables e below (T20.setTop (mkF m 39 #[.val (.long q5_0), .second, .val (.int (128 : Int32))] [(.ref b15)])) t → Steps p.tables e below (s₁.setTop (entryFrame m #[(.long q5_0)] 3)) t := by
        intro t k
        refine k13 t ?_
        show Steps p.tables e below (s₁.setTop (mkF m 17 #[.val (.long q5_0), .second, .val (.int (128 : Int32))] [(.int (lcmpW q5_0 (127 : Int64)))])) _
        refine XS.ifYes X0.here hx rfl (pc0 := 17) (pc' := 31) rfl (hb hby d5_17) rfl ((if0 _ _).trans (tlt ((lw_gt _ _).mpr hc17_14)).2.2.1) (by decide) (by decide) ?_
        show Steps p.tables e below (s₁.setTop (mkF m 31 #[.val (.long q5_0), .second, .val (.int (128 : Int32))] [])) _
        refine st15 _ ?_
        show Steps p.tables e below (T15.setTop (mkF m 34 #[.val (.long q5_0), .second, .val (.int (128 : Int32))] [(.ref b15)])) _
        refine XS.dup X15.here hx rfl (hb hby d5_34) rfl rfl ?_
        show Steps p.tables e below (T15.setTop (mkF m 35 #[.val (.long q5_0), .second, .val (.int (128 : Int32))] [(.ref b15), (.ref b15)])) _
        refine XS.lloadN X15.here hx rfl (hb hby d5_35) rfl ?_
        show Steps p.tables e below (T15.setTop (mkF m 36 #[.val (.long q5_0), .second, .val (.int (128 : Int32))] [(.long q5_0), (.ref b15), (.ref b15)])) _
        refine st20.trans ?_
        exact k
      obtain ⟨fs, hr, hrun, hended, hW, hsame⟩ := X20.leave (v := some (.ref b15)) (fun h => by rw [Bd.returns] at h; cases h)
      refine ⟨_, _, k24 _ ?_, hrun, hended, _, _, rfl, ?_, ⟨_, rfl⟩, hW, hsame.mono (by decide) (by decide)⟩
      · exact retOut X20 hx Bd.returns rfl (Or.inr (Or.inr (Or.inr (Or.inr ⟨rfl, rfl, rfl⟩)))) (hb hby d5_39) hr
      · show Q5 Z q5_0 u_cache cl_cache h0 n0 _ T20.heap _
        exact ⟨b15, rfl, N20, K20⟩
    · skip
      obtain ⟨T25, X25, e25, st25⟩ := getS2 X0 hx hZ hown (host := "") (Or.inl (hw _ (List.mem_of_getElem? (i := 61) rfl))) Via.refl e0 Sc (g := (mkF m 20 #[.val (.long q5_0), .second, .val (.int (128 : Int32))] [])) rfl (hb hby d5_20)
      have hin26 : ¬ ((q5_0.toInt32 + (128 : Int32)) < 0 ∨ cl_cache.slots.size ≤ ((q5_0.toInt32 + (128 : Int32))).toNatClampNeg) := inb_of hsz (own_cidx q5_0 hc9_2 hc17_14)
      obtain ⟨x26, hx26⟩ := hall _ hin26
      have k27 : ∀ t, Steps p.tables e below (T25.setTop (mkF m 30 #[.val (.long q5_0), .second, .val (.int (128 : Int32))] [(.ref x26)])) t → Steps p.tables e below (s₁.setTop (entryFrame m #[(.long q5_0)] 3)) t := by
        intro t k
        refine k13 t ?_
        show Steps p.tables e below (s₁.setTop (mkF m 17 #[.val (.long q5_0), .second, .val (.int (128 : Int32))] [(.int (lcmpW q5_0 (127 : Int64)))])) _
        refine XS.ifNo X0.here hx rfl (hb hby d5_17) rfl ((if0 _ _).trans (flt (fun q => absurd ((lw_gt _ _).mp q) hc17_14)).2.2.1) ?_
        show Steps p.tables e below (s₁.setTop (mkF m 20 #[.val (.long q5_0), .second, .val (.int (128 : Int32))] [])) _
        refine st25 _ ?_
        show Steps p.tables e below (T25.setTop (mkF m 23 #[.val (.long q5_0), .second, .val (.int (128 : Int32))] [(.ref u_cache)])) _
        refine XS.lloadN X25.here hx rfl (hb hby d5_23) rfl ?_
        show Steps p.tables e below (T25.setTop (mkF m 24 #[.val (.long q5_0), .second, .val (.int (128 : Int32))] [(.long q5_0), (.ref u_cache)])) _
        refine XS.l2i X25.here hx rfl (hb hby d5_24) rfl ?_
        show Steps p.tables e below (T25.setTop (mkF m 25 #[.val (.long q5_0), .second, .val (.int (128 : Int32))] [(.int q5_0.toInt32), (.ref u_cache)])) _
        refine XS.sipush X25.here hx rfl (hb hby d5_25) ?_
        show Steps p.tables e below (T25.setTop (mkF m 28 #[.val (.long q5_0), .second, .val (.int (128 : Int32))] [(.int (128 : Int32)), (.int q5_0.toInt32), (.ref u_cache)])) _
        refine XS.iadd X25.here hx rfl (hb hby d5_28) rfl ?_
        show Steps p.tables e below (T25.setTop (mkF m 29 #[.val (.long q5_0), .second, .val (.int (128 : Int32))] [(.int (q5_0.toInt32 + (128 : Int32))), (.ref u_cache)])) _
        refine X25.aaload hx (j := (q5_0.toInt32 + (128 : Int32))) (v := (.ref x26)) (by rw [e25]; exact Ac.1) (State.isArrayOf_alike hZ.alike Ac.2.1) rfl Ac.2.2 hin26 hx26 (g := (mkF m 29 #[.val (.long q5_0), .second, .val (.int (128 : Int32))] [(.int (q5_0.toInt32 + (128 : Int32))), (.ref u_cache)])) rfl rfl (hb hby d5_29) _ ?_
        exact k
      obtain ⟨fs, hr, hrun, hended, hW, hsame⟩ := X25.leave (v := some (.ref x26)) (fun h => by rw [Bd.returns] at h; cases h)
      refine ⟨_, _, k27 _ ?_, hrun, hended, _, _, rfl, ?_, ⟨_, rfl⟩, hW, hsame.mono (by decide) (by decide)⟩
      · exact retOut X25 hx Bd.returns rfl (Or.inr (Or.inr (Or.inr (Or.inr ⟨rfl, rfl, rfl⟩)))) (hb hby d5_30) hr
      · show Q5 Z q5_0 u_cache cl_cache h0 n0 _ T25.heap _
        rw [e25]
        exact ⟨x26, rfl, N0, (Keep.refl h0 [])⟩
theorem pn_3 : plainName "com/example/ratatoskr/ratatoskr/cli/Bench$Settings" = true := by first | (simp [plainName, overriddenIn]; done) | decide +kernel
theorem d6_0 : decode prog_4_method_1_code 0 = .ok (.aload_n 0, 1) := by decide +kernel
theorem d6_1 : decode prog_4_method_1_code 1 = .ok (.invokespecial 1, 3) := by decide +kernel
theorem d6_4 : decode prog_4_method_1_code 4 = .ok (.aload_n 0, 1) := by decide +kernel
theorem d6_5 : decode prog_4_method_1_code 5 = .ok (.iload_n 1, 1) := by decide +kernel
theorem d6_6 : decode prog_4_method_1_code 6 = .ok (.putfield 7, 3) := by decide +kernel
theorem d6_9 : decode prog_4_method_1_code 9 = .ok (.aload_n 0, 1) := by decide +kernel
theorem d6_10 : decode prog_4_method_1_code 10 = .ok (.iload_n 2, 1) := by decide +kernel
theorem d6_11 : decode prog_4_method_1_code 11 = .ok (.putfield 13, 3) := by decide +kernel
theorem d6_14 : decode prog_4_method_1_code 14 = .ok (.aload_n 0, 1) := by decide +kernel
theorem d6_15 : decode prog_4_method_1_code 15 = .ok (.iload_n 3, 1) := by decide +kernel
theorem d6_16 : decode prog_4_method_1_code 16 = .ok (.putfield 16, 3) := by decide +kernel
theorem d6_19 : decode prog_4_method_1_code 19 = .ok (.aload_n 0, 1) := by decide +kernel
theorem d6_20 : decode prog_4_method_1_code 20 = .ok (.iload 4, 2) := by decide +kernel
theorem d6_22 : decode prog_4_method_1_code 22 = .ok (.putfield 19, 3) := by decide +kernel
theorem d6_25 : decode prog_4_method_1_code 25 = .ok (.aload_n 0, 1) := by decide +kernel
theorem d6_26 : decode prog_4_method_1_code 26 = .ok (.aload 5, 2) := by decide +kernel
theorem d6_28 : decode prog_4_method_1_code 28 = .ok (.putfield 22, 3) := by decide +kernel
theorem d6_31 : decode prog_4_method_1_code 31 = .ok (.aload_n 0, 1) := by decide +kernel
theorem d6_32 : decode prog_4_method_1_code 32 = .ok (.iload 6, 2) := by decide +kernel
theorem d6_34 : decode prog_4_method_1_code 34 = .ok (.putfield 26, 3) := by decide +kernel
theorem d6_37 : decode prog_4_method_1_code 37 = .ok (.return_, 1) := by decide +kernel
theorem ef_6 (m : MethodId) (a6_0 : Addr) (p6_1 : Int32) (p6_2 : Int32) (p6_3 : Int32) (p6_4 : Int32) (a6_5 : Addr) (p6_6 : Int32) : entryFrame m #[(.ref a6_0), (.int p6_1), (.int p6_2), (.int p6_3), (.int p6_4), (.ref a6_5), (.int p6_6)] 7 = mkF m 0 #[.val (.ref a6_0), .val (.int p6_1), .val (.int p6_2), .val (.int p6_3), .val (.int p6_4), .val (.ref a6_5), .val (.int p6_6)] [] := by first | (simp [entryFrame, mkF, argsToLocals, Value.category]; done) | rfl
def Q6 (Z : State) (a6_0 : Addr) (p6_1 : Int32) (p6_2 : Int32) (p6_3 : Int32) (p6_4 : Int32) (a6_5 : Addr) (p6_6 : Int32) (h0 : Heap) (n0 : Nat) (v : Option Value) (h : Heap) (L : List Loc) : Prop := v = none ∧ Fr n0 L ∧ Keep h0 h [a6_0] ∧ Exa Z h a6_0 "com/example/ratatoskr/ratatoskr/cli/Bench$Settings" ∧ Fld Z h a6_0 "com/example/ratatoskr/ratatoskr/cli/Bench$Settings" "processes" "I" (.int p6_1) ∧ Fld Z h a6_0 "com/example/ratatoskr/ratatoskr/cli/Bench$Settings" "subscribers" "I" (.int p6_2)
set_option maxRecDepth 65536 in
set_option maxHeartbeats 40000000 in
theorem rm6 (l : Launch) (Z : State) (a0 : Array Value) (hw : ∀ d ∈ tables_1, d.before a0 Z = true) (ws : List Jvm.Cond) (a6_0 : Addr) (p6_1 : Int32) (p6_2 : Int32) (p6_3 : Int32) (p6_4 : Int32) (a6_5 : Addr) (p6_6 : Int32) (h0 : Heap) (n0 : Nat) (Z0 : n0 ≤ h0.size) (Ea : Exa Z h0 a6_0 "com/example/ratatoskr/ratatoskr/cli/Bench$Settings") (F_processes : Fld Z h0 a6_0 "com/example/ratatoskr/ratatoskr/cli/Bench$Settings" "processes" "I" (.int (0 : Int32))) (F_subscribers : Fld Z h0 a6_0 "com/example/ratatoskr/ratatoskr/cli/Bench$Settings" "subscribers" "I" (.int (0 : Int32))) (F_count : Fld Z h0 a6_0 "com/example/ratatoskr/ratatoskr/cli/Bench$Settings" "count" "I" (.int (0 : Int32))) (F_size : Fld Z h0 a6_0 "com/example/ratatoskr/ratatoskr/cli/Bench$Settings" "size" "I" (.int (0 : Int32))) (F_rate : Fld Z h0 a6_0 "com/example/ratatoskr/ratatoskr/cli/Bench$Settings" "rate" "Ljava/lang/Long;" .null) (F_basePort : Fld Z h0 a6_0 "com/example/ratatoskr/ratatoskr/cli/Bench$Settings" "basePort" "I" (.int (0 : Int32))) (g_a6_0 : n0 ≤ a6_0) :
    MetFree l (⟨"com/example/ratatoskr/ratatoskr/cli/Bench$Settings", "<init>", "(IIIILjava/lang/Long;I)V"⟩ : MethodName) (head1 (Jvm.Cond.code (⟨"com/example/ratatoskr/ratatoskr/cli/Bench$Settings", "<init>", "(IIIILjava/lang/Long;I)V"⟩ : MethodName) prog_4_method_1_code 7 none :: ws) ({ frames := 2, cells := 0, slots := 0, locals := 24 } : Room)) (fun a U => a = #[(.ref a6_0), (.int p6_1), (.int p6_2), (.int p6_3), (.int p6_4), (.ref a6_5), (.int p6_6)] ∧ Z.Warmed39 U.vm ∧ U.heap = h0) (fun _ _ _ _ _ => True) (fun _ U o U' => ∃ v L, o = .returned v ∧ Q6 Z a6_0 p6_1 p6_2 p6_3 p6_4 a6_5 p6_6 h0 n0 v U'.heap L ∧ FrameEnd U o U' L ({ frames := 2, cells := 0, slots := 0, locals := 24 } : Room).cells ({ frames := 2, cells := 0, slots := 0, locals := 24 } : Room).slots) := by
  refine MetFree.of_bodySF (plainFor_of_name pn_3) hisR ?_
  intro p e s m args below meth c s₁ Bd hml0 hP hK
  obtain ⟨rfl, hZ, hh⟩ := hP
  have hx := Bd.exec
  have hby := Bd.bytes
  have hml : c.maxLocals = 7 := hml0
  have hown : s.vm.findClass "com/example/ratatoskr/ratatoskr/cli/Bench$Settings" = some m.cls := findClass_of_methodNamed Bd.named
  have hnm := (name_of_methodNamed Bd.named Bd.method).1
  have X0 : Stand p l e ({ frames := 2, cells := 0, slots := 0, locals := 24 } : Room) s m #[(.ref a6_0), (.int p6_1), (.int p6_2), (.int p6_3), (.int p6_4), (.ref a6_5), (.int p6_6)] below meth c s₁ [] 0 0 := Stand.of_body Bd
  have e0 : s₁.heap = h0 := by rw [← hh, Bd.state]; rfl
  have N0 := Fr.nil n0
  have pre0 : ∀ t, Steps p.tables e below (s₁.setTop (mkF m 0 #[.val (.ref a6_0), .val (.int p6_1), .val (.int p6_2), .val (.int p6_3), .val (.int p6_4), .val (.ref a6_5), .val (.int p6_6)] [])) t → Steps p.tables e below (s₁.setTop (entryFrame m #[(.ref a6_0), (.int p6_1), (.int p6_2), (.int p6_3), (.int p6_4), (.ref a6_5), (.int p6_6)] 7)) t := fun t k => castTop (ef_6 m a6_0 p6_1 p6_2 p6_3 p6_4 a6_5 p6_6) k
  obtain ⟨_, _, ⟨T1, L1, k1, n1⟩, -, X1, ⟨Lc1, hQ1, l1, y1, z1⟩, st1⟩ := X0.specialBack hx (y := (⟨"java/lang/Record", "<init>", "()V"⟩ : MethodName)) rfl hown (mvT hZ (hw _ (List.mem_of_getElem? (i := 33) rfl))) (mvT hZ (hw _ (List.mem_of_getElem? (i := 34) rfl))) (mvT hZ (hw _ (List.mem_of_getElem? (i := 37) rfl))) (by decide) (backOf (W := 0) (rm3 l Z a0 hw [] a6_0 h0 n0 Z0 ) hZ (hw _ (List.mem_of_getElem? (i := 37) rfl)) (hw _ (List.mem_of_getElem? (i := 36) rfl)) (by decide) (by decide)) (g := (mkF m 1 #[.val (.ref a6_0), .val (.int p6_1), .val (.int p6_2), .val (.int p6_3), .val (.int p6_4), .val (.ref a6_5), .val (.int p6_6)] [(.ref a6_0)])) rfl (by rw [hml]; rfl) (Steps.refl _) (a := a6_0) (argsL := []) (rest := []) (lenOf pd_0 rfl) rfl (by show 2 * 0 + _ ≤ _; exact Nat.le_of_eq rfl) (hb hby d6_1) (fun _ _ => ⟨rfl, e0, (by decide : 0 + 0 ≤ _), (by decide : 0 + 0 ≤ _)⟩)
  dsimp only [Pt.U, Pt.locs, Pt.cells, Pt.slots] at X1 l1 y1 z1 st1 hQ1
  subst l1 y1 z1
  obtain ⟨rfl, N1q, eh1⟩ := hQ1
  have N1 := Fr.app N0 N1q
  obtain ⟨T2, h2, X2, e2, W2, st2⟩ := putF X1 hx hZ hown (host := "") (Or.inl (hw _ (List.mem_of_getElem? (i := 39) rfl))) Via.refl eh1 F_processes Ea (Or.inr ⟨(hw _ (List.mem_of_getElem? (i := 40) rfl)), rfl, hnm⟩) (hw _ (List.mem_of_getElem? (i := 6) rfl)) (ty := .int) (by decide) rfl rfl (g := (mkF m 6 #[.val (.ref a6_0), .val (.int p6_1), .val (.int p6_2), .val (.int p6_3), .val (.int p6_4), .val (.ref a6_5), .val (.int p6_6)] [(.int p6_1), (.ref a6_0)])) rfl rfl (hb hby d6_6)
  have Fw2 : Fld Z h2 a6_0 "com/example/ratatoskr/ratatoskr/cli/Bench$Settings" "processes" "I" (.int p6_1) := F_processes.same W2
  have F3 : Exa Z h2 a6_0 "com/example/ratatoskr/ratatoskr/cli/Bench$Settings" := Ea.wr W2
  have F5 : Fld Z h2 a6_0 "com/example/ratatoskr/ratatoskr/cli/Bench$Settings" "subscribers" "I" (.int (0 : Int32)) := F_subscribers.other W2 (Or.inr (slot_ne (Or.inr (hw _ (List.mem_of_getElem? (i := 42) rfl))) (Or.inr (hw _ (List.mem_of_getElem? (i := 40) rfl))) (by decide) (t := .int) (t' := .int) (by decide) (by decide)))
  have F6 : Fld Z h2 a6_0 "com/example/ratatoskr/ratatoskr/cli/Bench$Settings" "count" "I" (.int (0 : Int32)) := F_count.other W2 (Or.inr (slot_ne (Or.inr (hw _ (List.mem_of_getElem? (i := 44) rfl))) (Or.inr (hw _ (List.mem_of_getElem? (i := 40) rfl))) (by decide) (t := .int) (t' := .int) (by decide) (by decide)))
  have F7 : Fld Z h2 a6_0 "com/example/ratatoskr/ratatoskr/cli/Bench$Settings" "size" "I" (.int (0 : Int32)) := F_size.other W2 (Or.inr (slot_ne (Or.inr (hw _ (List.mem_of_getElem? (i := 46) rfl))) (Or.inr (hw _ (List.mem_of_getElem? (i := 40) rfl))) (by decide) (t := .int) (t' := .int) (by decide) (by decide)))
  have F8 : Fld Z h2 a6_0 "com/example/ratatoskr/ratatoskr/cli/Bench$Settings" "rate" "Ljava/lang/Long;" .null := F_rate.other W2 (Or.inr (slot_ne (Or.inr (hw _ (List.mem_of_getElem? (i := 48) rfl))) (Or.inr (hw _ (List.mem_of_getElem? (i := 40) rfl))) (by decide) (t := (.object "java/lang/Long")) (t' := .int) (by decide) (by decide)))
  have F9 : Fld Z h2 a6_0 "com/example/ratatoskr/ratatoskr/cli/Bench$Settings" "basePort" "I" (.int (0 : Int32)) := F_basePort.other W2 (Or.inr (slot_ne (Or.inr (hw _ (List.mem_of_getElem? (i := 50) rfl))) (Or.inr (hw _ (List.mem_of_getElem? (i := 40) rfl))) (by decide) (t := .int) (t' := .int) (by decide) (by decide)))
  have N2 := Fr.snoc X2 N1 g_a6_0
  have K2 : Keep h0 h2 [a6_0] := (Keep.refl h0 [a6_0]).wr W2 (Or.inl (List.mem_of_getElem? (i := 0) rfl))
  have Zs2 : n0 ≤ h2.size := by rw [W2.size]; exact Z0
  obtain ⟨T10, h10, X10, e10, W10, st10⟩ := putF X2 hx hZ hown (host := "") (Or.inl (hw _ (List.mem_of_getElem? (i := 41) rfl))) Via.refl e2 F5 F3 (Or.inr ⟨(hw _ (List.mem_of_getElem? (i := 42) rfl)), rfl, hnm⟩) (hw _ (List.mem_of_getElem? (i := 6) rfl)) (ty := .int) (by decide) rfl rfl (g := (mkF m 11 #[.val (.ref a6_0), .val (.int p6_1), .val (.int p6_2), .val (.int p6_3), .val (.int p6_4), .val (.ref a6_5), .val (.int p6_6)] [(.int p6_2), (.ref a6_0)])) rfl rfl (hb hby d6_11)
  have Fw10 : Fld Z h10 a6_0 "com/example/ratatoskr/ratatoskr/cli/Bench$Settings" "subscribers" "I" (.int p6_2) := F5.same W10
  have F11 : Exa Z h10 a6_0 "com/example/ratatoskr/ratatoskr/cli/Bench$Settings" := F3.wr W10
  have F13 : Fld Z h10 a6_0 "com/example/ratatoskr/ratatoskr/cli/Bench$Settings" "count" "I" (.int (0 : Int32)) := F6.other W10 (Or.inr (slot_ne (Or.inr (hw _ (List.mem_of_getElem? (i := 44) rfl))) (Or.inr (hw _ (List.mem_of_getElem? (i := 42) rfl))) (by decide) (t := .int) (t' := .int) (by decide) (by decide)))
  have F14 : Fld Z h10 a6_0 "com/example/ratatoskr/ratatoskr/cli/Bench$Settings" "size" "I" (.int (0 : Int32)) := F7.other W10 (Or.inr (slot_ne (Or.inr (hw _ (List.mem_of_getElem? (i := 46) rfl))) (Or.inr (hw _ (List.mem_of_getElem? (i := 42) rfl))) (by decide) (t := .int) (t' := .int) (by decide) (by decide)))
  have F15 : Fld Z h10 a6_0 "com/example/ratatoskr/ratatoskr/cli/Bench$Settings" "rate" "Ljava/lang/Long;" .null := F8.other W10 (Or.inr (slot_ne (Or.inr (hw _ (List.mem_of_getElem? (i := 48) rfl))) (Or.inr (hw _ (List.mem_of_getElem? (i := 42) rfl))) (by decide) (t := (.object "java/lang/Long")) (t' := .int) (by decide) (by decide)))
  have F16 : Fld Z h10 a6_0 "com/example/ratatoskr/ratatoskr/cli/Bench$Settings" "basePort" "I" (.int (0 : Int32)) := F9.other W10 (Or.inr (slot_ne (Or.inr (hw _ (List.mem_of_getElem? (i := 50) rfl))) (Or.inr (hw _ (List.mem_of_getElem? (i := 42) rfl))) (by decide) (t := .int) (t' := .int) (by decide) (by decide)))
  have F17 : Fld Z h10 a6_0 "com/example/ratatoskr/ratatoskr/cli/Bench$Settings" "processes" "I" (.int p6_1) := Fw2.other W10 (Or.inr (slot_ne (Or.inr (hw _ (List.mem_of_getElem? (i := 40) rfl))) (Or.inr (hw _ (List.mem_of_getElem? (i := 42) rfl))) (by decide) (t := .int) (t' := .int) (by decide) (by decide)))
  have N10 := Fr.snoc X10 N2 g_a6_0
  have K10 : Keep h0 h10 [a6_0] := K2.wr W10 (Or.inl (List.mem_of_getElem? (i := 0) rfl))
  have Zs10 : n0 ≤ h10.size := by rw [W10.size]; exact Zs2
  obtain ⟨T18, h18, X18, e18, W18, st18⟩ := putF X10 hx hZ hown (host := "") (Or.inl (hw _ (List.mem_of_getElem? (i := 43) rfl))) Via.refl e10 F13 F11 (Or.inr ⟨(hw _ (List.mem_of_getElem? (i := 44) rfl)), rfl, hnm⟩) (hw _ (List.mem_of_getElem? (i := 6) rfl)) (ty := .int) (by decide) rfl rfl (g := (mkF m 16 #[.val (.ref a6_0), .val (.int p6_1), .val (.int p6_2), .val (.int p6_3), .val (.int p6_4), .val (.ref a6_5), .val (.int p6_6)] [(.int p6_3), (.ref a6_0)])) rfl rfl (hb hby d6_16)
  have Fw18 : Fld Z h18 a6_0 "com/example/ratatoskr/ratatoskr/cli/Bench$Settings" "count" "I" (.int p6_3) := F13.same W18
  have F19 : Exa Z h18 a6_0 "com/example/ratatoskr/ratatoskr/cli/Bench$Settings" := F11.wr W18
  have F21 : Fld Z h18 a6_0 "com/example/ratatoskr/ratatoskr/cli/Bench$Settings" "size" "I" (.int (0 : Int32)) := F14.other W18 (Or.inr (slot_ne (Or.inr (hw _ (List.mem_of_getElem? (i := 46) rfl))) (Or.inr (hw _ (List.mem_of_getElem? (i := 44) rfl))) (by decide) (t := .int) (t' := .int) (by decide) (by decide)))
  have F22 : Fld Z h18 a6_0 "com/example/ratatoskr/ratatoskr/cli/Bench$Settings" "rate" "Ljava/lang/Long;" .null := F15.other W18 (Or.inr (slot_ne (Or.inr (hw _ (List.mem_of_getElem? (i := 48) rfl))) (Or.inr (hw _ (List.mem_of_getElem? (i := 44) rfl))) (by decide) (t := (.object "java/lang/Long")) (t' := .int) (by decide) (by decide)))
  have F23 : Fld Z h18 a6_0 "com/example/ratatoskr/ratatoskr/cli/Bench$Settings" "basePort" "I" (.int (0 : Int32)) := F16.other W18 (Or.inr (slot_ne (Or.inr (hw _ (List.mem_of_getElem? (i := 50) rfl))) (Or.inr (hw _ (List.mem_of_getElem? (i := 44) rfl))) (by decide) (t := .int) (t' := .int) (by decide) (by decide)))
  have F24 : Fld Z h18 a6_0 "com/example/ratatoskr/ratatoskr/cli/Bench$Settings" "processes" "I" (.int p6_1) := F17.other W18 (Or.inr (slot_ne (Or.inr (hw _ (List.mem_of_getElem? (i := 40) rfl))) (Or.inr (hw _ (List.mem_of_getElem? (i := 44) rfl))) (by decide) (t := .int) (t' := .int) (by decide) (by decide)))
  have F25 : Fld Z h18 a6_0 "com/example/ratatoskr/ratatoskr/cli/Bench$Settings" "subscribers" "I" (.int p6_2) := Fw10.other W18 (Or.inr (slot_ne (Or.inr (hw _ (List.mem_of_getElem? (i := 42) rfl))) (Or.inr (hw _ (List.mem_of_getElem? (i := 44) rfl))) (by decide) (t := .int) (t' := .int) (by decide) (by decide)))
  have N18 := Fr.snoc X18 N10 g_a6_0
  have K18 : Keep h0 h18 [a6_0] := K10.wr W18 (Or.inl (List.mem_of_getElem? (i := 0) rfl))
  have Zs18 : n0 ≤ h18.size := by rw [W18.size]; exact Zs10
  obtain ⟨T26, h26, X26, e26, W26, st26⟩ := putF X18 hx hZ hown (host := "") (Or.inl (hw _ (List.mem_of_getElem? (i := 45) rfl))) Via.refl e18 F21 F19 (Or.inr ⟨(hw _ (List.mem_of_getElem? (i := 46) rfl)), rfl, hnm⟩) (hw _ (List.mem_of_getElem? (i := 6) rfl)) (ty := .int) (by decide) rfl rfl (g := (mkF m 22 #[.val (.ref a6_0), .val (.int p6_1), .val (.int p6_2), .val (.int p6_3), .val (.int p6_4), .val (.ref a6_5), .val (.int p6_6)] [(.int p6_4), (.ref a6_0)])) rfl rfl (hb hby d6_22)
  have Fw26 : Fld Z h26 a6_0 "com/example/ratatoskr/ratatoskr/cli/Bench$Settings" "size" "I" (.int p6_4) := F21.same W26
  have F27 : Exa Z h26 a6_0 "com/example/ratatoskr/ratatoskr/cli/Bench$Settings" := F19.wr W26
  have F29 : Fld Z h26 a6_0 "com/example/ratatoskr/ratatoskr/cli/Bench$Settings" "rate" "Ljava/lang/Long;" .null := F22.other W26 (Or.inr (slot_ne (Or.inr (hw _ (List.mem_of_getElem? (i := 48) rfl))) (Or.inr (hw _ (List.mem_of_getElem? (i := 46) rfl))) (by decide) (t := (.object "java/lang/Long")) (t' := .int) (by decide) (by decide)))
  have F30 : Fld Z h26 a6_0 "com/example/ratatoskr/ratatoskr/cli/Bench$Settings" "basePort" "I" (.int (0 : Int32)) := F23.other W26 (Or.inr (slot_ne (Or.inr (hw _ (List.mem_of_getElem? (i := 50) rfl))) (Or.inr (hw _ (List.mem_of_getElem? (i := 46) rfl))) (by decide) (t := .int) (t' := .int) (by decide) (by decide)))
  have F31 : Fld Z h26 a6_0 "com/example/ratatoskr/ratatoskr/cli/Bench$Settings" "processes" "I" (.int p6_1) := F24.other W26 (Or.inr (slot_ne (Or.inr (hw _ (List.mem_of_getElem? (i := 40) rfl))) (Or.inr (hw _ (List.mem_of_getElem? (i := 46) rfl))) (by decide) (t := .int) (t' := .int) (by decide) (by decide)))
  have F32 : Fld Z h26 a6_0 "com/example/ratatoskr/ratatoskr/cli/Bench$Settings" "subscribers" "I" (.int p6_2) := F25.other W26 (Or.inr (slot_ne (Or.inr (hw _ (List.mem_of_getElem? (i := 42) rfl))) (Or.inr (hw _ (List.mem_of_getElem? (i := 46) rfl))) (by decide) (t := .int) (t' := .int) (by decide) (by decide)))
  have F33 : Fld Z h26 a6_0 "com/example/ratatoskr/ratatoskr/cli/Bench$Settings" "count" "I" (.int p6_3) := Fw18.other W26 (Or.inr (slot_ne (Or.inr (hw _ (List.mem_of_getElem? (i := 44) rfl))) (Or.inr (hw _ (List.mem_of_getElem? (i := 46) rfl))) (by decide) (t := .int) (t' := .int) (by decide) (by decide)))
  have N26 := Fr.snoc X26 N18 g_a6_0
  have K26 : Keep h0 h26 [a6_0] := K18.wr W26 (Or.inl (List.mem_of_getElem? (i := 0) rfl))
  have Zs26 : n0 ≤ h26.size := by rw [W26.size]; exact Zs18
  obtain ⟨T34, h34, X34, e34, W34, st34⟩ := putF X26 hx hZ hown (host := "") (Or.inl (hw _ (List.mem_of_getElem? (i := 47) rfl))) Via.refl e26 F29 F27 (Or.inr ⟨(hw _ (List.mem_of_getElem? (i := 48) rfl)), rfl, hnm⟩) (hw _ (List.mem_of_getElem? (i := 6) rfl)) (ty := (.object "java/lang/Long")) (by decide) rfl rfl (g := (mkF m 28 #[.val (.ref a6_0), .val (.int p6_1), .val (.int p6_2), .val (.int p6_3), .val (.int p6_4), .val (.ref a6_5), .val (.int p6_6)] [(.ref a6_5), (.ref a6_0)])) rfl rfl (hb hby d6_28)
  have Fw34 : Fld Z h34 a6_0 "com/example/ratatoskr/ratatoskr/cli/Bench$Settings" "rate" "Ljava/lang/Long;" (.ref a6_5) := F29.same W34
  have F35 : Exa Z h34 a6_0 "com/example/ratatoskr/ratatoskr/cli/Bench$Settings" := F27.wr W34
  have F37 : Fld Z h34 a6_0 "com/example/ratatoskr/ratatoskr/cli/Bench$Settings" "basePort" "I" (.int (0 : Int32)) := F30.other W34 (Or.inr (slot_ne (Or.inr (hw _ (List.mem_of_getElem? (i := 50) rfl))) (Or.inr (hw _ (List.mem_of_getElem? (i := 48) rfl))) (by decide) (t := .int) (t' := (.object "java/lang/Long")) (by decide) (by decide)))
  have F38 : Fld Z h34 a6_0 "com/example/ratatoskr/ratatoskr/cli/Bench$Settings" "processes" "I" (.int p6_1) := F31.other W34 (Or.inr (slot_ne (Or.inr (hw _ (List.mem_of_getElem? (i := 40) rfl))) (Or.inr (hw _ (List.mem_of_getElem? (i := 48) rfl))) (by decide) (t := .int) (t' := (.object "java/lang/Long")) (by decide) (by decide)))
  have F39 : Fld Z h34 a6_0 "com/example/ratatoskr/ratatoskr/cli/Bench$Settings" "subscribers" "I" (.int p6_2) := F32.other W34 (Or.inr (slot_ne (Or.inr (hw _ (List.mem_of_getElem? (i := 42) rfl))) (Or.inr (hw _ (List.mem_of_getElem? (i := 48) rfl))) (by decide) (t := .int) (t' := (.object "java/lang/Long")) (by decide) (by decide)))
  have F40 : Fld Z h34 a6_0 "com/example/ratatoskr/ratatoskr/cli/Bench$Settings" "count" "I" (.int p6_3) := F33.other W34 (Or.inr (slot_ne (Or.inr (hw _ (List.mem_of_getElem? (i := 44) rfl))) (Or.inr (hw _ (List.mem_of_getElem? (i := 48) rfl))) (by decide) (t := .int) (t' := (.object "java/lang/Long")) (by decide) (by decide)))
  have F41 : Fld Z h34 a6_0 "com/example/ratatoskr/ratatoskr/cli/Bench$Settings" "size" "I" (.int p6_4) := Fw26.other W34 (Or.inr (slot_ne (Or.inr (hw _ (List.mem_of_getElem? (i := 46) rfl))) (Or.inr (hw _ (List.mem_of_getElem? (i := 48) rfl))) (by decide) (t := .int) (t' := (.object "java/lang/Long")) (by decide) (by decide)))
  have N34 := Fr.snoc X34 N26 g_a6_0
  have K34 : Keep h0 h34 [a6_0] := K26.wr W34 (Or.inl (List.mem_of_getElem? (i := 0) rfl))
  have Zs34 : n0 ≤ h34.size := by rw [W34.size]; exact Zs26
  obtain ⟨T42, h42, X42, e42, W42, st42⟩ := putF X34 hx hZ hown (host := "") (Or.inl (hw _ (List.mem_of_getElem? (i := 49) rfl))) Via.refl e34 F37 F35 (Or.inr ⟨(hw _ (List.mem_of_getElem? (i := 50) rfl)), rfl, hnm⟩) (hw _ (List.mem_of_getElem? (i := 6) rfl)) (ty := .int) (by decide) rfl rfl (g := (mkF m 34 #[.val (.ref a6_0), .val (.int p6_1), .val (.int p6_2), .val (.int p6_3), .val (.int p6_4), .val (.ref a6_5), .val (.int p6_6)] [(.int p6_6), (.ref a6_0)])) rfl rfl (hb hby d6_34)
  have Fw42 : Fld Z h42 a6_0 "com/example/ratatoskr/ratatoskr/cli/Bench$Settings" "basePort" "I" (.int p6_6) := F37.same W42
  have F43 : Exa Z h42 a6_0 "com/example/ratatoskr/ratatoskr/cli/Bench$Settings" := F35.wr W42
  have F45 : Fld Z h42 a6_0 "com/example/ratatoskr/ratatoskr/cli/Bench$Settings" "processes" "I" (.int p6_1) := F38.other W42 (Or.inr (slot_ne (Or.inr (hw _ (List.mem_of_getElem? (i := 40) rfl))) (Or.inr (hw _ (List.mem_of_getElem? (i := 50) rfl))) (by decide) (t := .int) (t' := .int) (by decide) (by decide)))
  have F46 : Fld Z h42 a6_0 "com/example/ratatoskr/ratatoskr/cli/Bench$Settings" "subscribers" "I" (.int p6_2) := F39.other W42 (Or.inr (slot_ne (Or.inr (hw _ (List.mem_of_getElem? (i := 42) rfl))) (Or.inr (hw _ (List.mem_of_getElem? (i := 50) rfl))) (by decide) (t := .int) (t' := .int) (by decide) (by decide)))
  have F47 : Fld Z h42 a6_0 "com/example/ratatoskr/ratatoskr/cli/Bench$Settings" "count" "I" (.int p6_3) := F40.other W42 (Or.inr (slot_ne (Or.inr (hw _ (List.mem_of_getElem? (i := 44) rfl))) (Or.inr (hw _ (List.mem_of_getElem? (i := 50) rfl))) (by decide) (t := .int) (t' := .int) (by decide) (by decide)))
  have F48 : Fld Z h42 a6_0 "com/example/ratatoskr/ratatoskr/cli/Bench$Settings" "size" "I" (.int p6_4) := F41.other W42 (Or.inr (slot_ne (Or.inr (hw _ (List.mem_of_getElem? (i := 46) rfl))) (Or.inr (hw _ (List.mem_of_getElem? (i := 50) rfl))) (by decide) (t := .int) (t' := .int) (by decide) (by decide)))
  have F49 : Fld Z h42 a6_0 "com/example/ratatoskr/ratatoskr/cli/Bench$Settings" "rate" "Ljava/lang/Long;" (.ref a6_5) := Fw34.other W42 (Or.inr (slot_ne (Or.inr (hw _ (List.mem_of_getElem? (i := 48) rfl))) (Or.inr (hw _ (List.mem_of_getElem? (i := 50) rfl))) (by decide) (t := (.object "java/lang/Long")) (t' := .int) (by decide) (by decide)))
  have N42 := Fr.snoc X42 N34 g_a6_0
  have K42 : Keep h0 h42 [a6_0] := K34.wr W42 (Or.inl (List.mem_of_getElem? (i := 0) rfl))
  have Zs42 : n0 ≤ h42.size := by rw [W42.size]; exact Zs34
  have k50 : ∀ t, Steps p.tables e below (T42.setTop (mkF m 37 #[.val (.ref a6_0), .val (.int p6_1), .val (.int p6_2), .val (.int p6_3), .val (.int p6_4), .val (.ref a6_5), .val (.int p6_6)] [])) t → Steps p.tables e below (s₁.setTop (entryFrame m #[(.ref a6_0), (.int p6_1), (.int p6_2), (.int p6_3), (.int p6_4), (.ref a6_5), (.int p6_6)] 7)) t := by
    intro t k
    refine pre0 t ?_
    show Steps p.tables e below (s₁.setTop (mkF m 0 #[.val (.ref a6_0), .val (.int p6_1), .val (.int p6_2), .val (.int p6_3), .val (.int p6_4), .val (.ref a6_5), .val (.int p6_6)] [])) _
    refine XS.aloadN X0.here hx rfl (hb hby d6_0) rfl rfl ?_
    show Steps p.tables e below (s₁.setTop (mkF m 1 #[.val (.ref a6_0), .val (.int p6_1), .val (.int p6_2), .val (.int p6_3), .val (.int p6_4), .val (.ref a6_5), .val (.int p6_6)] [(.ref a6_0)])) _
    refine st1.trans ?_
    show Steps p.tables e below (T1.setTop (mkF m 4 #[.val (.ref a6_0), .val (.int p6_1), .val (.int p6_2), .val (.int p6_3), .val (.int p6_4), .val (.ref a6_5), .val (.int p6_6)] [])) _
    refine XS.aloadN X1.here hx rfl (hb hby d6_4) rfl rfl ?_
    show Steps p.tables e below (T1.setTop (mkF m 5 #[.val (.ref a6_0), .val (.int p6_1), .val (.int p6_2), .val (.int p6_3), .val (.int p6_4), .val (.ref a6_5), .val (.int p6_6)] [(.ref a6_0)])) _
    refine XS.iloadN X1.here hx rfl (hb hby d6_5) rfl ?_
    show Steps p.tables e below (T1.setTop (mkF m 6 #[.val (.ref a6_0), .val (.int p6_1), .val (.int p6_2), .val (.int p6_3), .val (.int p6_4), .val (.ref a6_5), .val (.int p6_6)] [(.int p6_1), (.ref a6_0)])) _
    refine st2 _ ?_
    show Steps p.tables e below (T2.setTop (mkF m 9 #[.val (.ref a6_0), .val (.int p6_1), .val (.int p6_2), .val (.int p6_3), .val (.int p6_4), .val (.ref a6_5), .val (.int p6_6)] [])) _
    refine XS.aloadN X2.here hx rfl (hb hby d6_9) rfl rfl ?_
    show Steps p.tables e below (T2.setTop (mkF m 10 #[.val (.ref a6_0), .val (.int p6_1), .val (.int p6_2), .val (.int p6_3), .val (.int p6_4), .val (.ref a6_5), .val (.int p6_6)] [(.ref a6_0)])) _
    refine XS.iloadN X2.here hx rfl (hb hby d6_10) rfl ?_
    show Steps p.tables e below (T2.setTop (mkF m 11 #[.val (.ref a6_0), .val (.int p6_1), .val (.int p6_2), .val (.int p6_3), .val (.int p6_4), .val (.ref a6_5), .val (.int p6_6)] [(.int p6_2), (.ref a6_0)])) _
    refine st10 _ ?_
    show Steps p.tables e below (T10.setTop (mkF m 14 #[.val (.ref a6_0), .val (.int p6_1), .val (.int p6_2), .val (.int p6_3), .val (.int p6_4), .val (.ref a6_5), .val (.int p6_6)] [])) _
    refine XS.aloadN X10.here hx rfl (hb hby d6_14) rfl rfl ?_
    show Steps p.tables e below (T10.setTop (mkF m 15 #[.val (.ref a6_0), .val (.int p6_1), .val (.int p6_2), .val (.int p6_3), .val (.int p6_4), .val (.ref a6_5), .val (.int p6_6)] [(.ref a6_0)])) _
    refine XS.iloadN X10.here hx rfl (hb hby d6_15) rfl ?_
    show Steps p.tables e below (T10.setTop (mkF m 16 #[.val (.ref a6_0), .val (.int p6_1), .val (.int p6_2), .val (.int p6_3), .val (.int p6_4), .val (.ref a6_5), .val (.int p6_6)] [(.int p6_3), (.ref a6_0)])) _
    refine st18 _ ?_
    show Steps p.tables e below (T18.setTop (mkF m 19 #[.val (.ref a6_0), .val (.int p6_1), .val (.int p6_2), .val (.int p6_3), .val (.int p6_4), .val (.ref a6_5), .val (.int p6_6)] [])) _
    refine XS.aloadN X18.here hx rfl (hb hby d6_19) rfl rfl ?_
    show Steps p.tables e below (T18.setTop (mkF m 20 #[.val (.ref a6_0), .val (.int p6_1), .val (.int p6_2), .val (.int p6_3), .val (.int p6_4), .val (.ref a6_5), .val (.int p6_6)] [(.ref a6_0)])) _
    refine XS.iload X18.here hx rfl (hb hby d6_20) rfl ?_
    show Steps p.tables e below (T18.setTop (mkF m 22 #[.val (.ref a6_0), .val (.int p6_1), .val (.int p6_2), .val (.int p6_3), .val (.int p6_4), .val (.ref a6_5), .val (.int p6_6)] [(.int p6_4), (.ref a6_0)])) _
    refine st26 _ ?_
    show Steps p.tables e below (T26.setTop (mkF m 25 #[.val (.ref a6_0), .val (.int p6_1), .val (.int p6_2), .val (.int p6_3), .val (.int p6_4), .val (.ref a6_5), .val (.int p6_6)] [])) _
    refine XS.aloadN X26.here hx rfl (hb hby d6_25) rfl rfl ?_
    show Steps p.tables e below (T26.setTop (mkF m 26 #[.val (.ref a6_0), .val (.int p6_1), .val (.int p6_2), .val (.int p6_3), .val (.int p6_4), .val (.ref a6_5), .val (.int p6_6)] [(.ref a6_0)])) _
    refine XS.aload X26.here hx rfl (hb hby d6_26) rfl rfl ?_
    show Steps p.tables e below (T26.setTop (mkF m 28 #[.val (.ref a6_0), .val (.int p6_1), .val (.int p6_2), .val (.int p6_3), .val (.int p6_4), .val (.ref a6_5), .val (.int p6_6)] [(.ref a6_5), (.ref a6_0)])) _
    refine st34 _ ?_
    show Steps p.tables e below (T34.setTop (mkF m 31 #[.val (.ref a6_0), .val (.int p6_1), .val (.int p6_2), .val (.int p6_3), .val (.int p6_4), .val (.ref a6_5), .val (.int p6_6)] [])) _
    refine XS.aloadN X34.here hx rfl (hb hby d6_31) rfl rfl ?_
    show Steps p.tables e below (T34.setTop (mkF m 32 #[.val (.ref a6_0), .val (.int p6_1), .val (.int p6_2), .val (.int p6_3), .val (.int p6_4), .val (.ref a6_5), .val (.int p6_6)] [(.ref a6_0)])) _
    refine XS.iload X34.here hx rfl (hb hby d6_32) rfl ?_
    show Steps p.tables e below (T34.setTop (mkF m 34 #[.val (.ref a6_0), .val (.int p6_1), .val (.int p6_2), .val (.int p6_3), .val (.int p6_4), .val (.ref a6_5), .val (.int p6_6)] [(.int p6_6), (.ref a6_0)])) _
    refine st42 _ ?_
    exact k
  obtain ⟨fs, hr, hrun, hended, hW, hsame⟩ := X42.leave (v := none) (fun _ => rfl)
  refine ⟨_, _, k50 _ ?_, hrun, hended, _, _, rfl, ?_, ⟨_, rfl⟩, hW, hsame.mono (by decide) (by decide)⟩
  · exact X42.returnOut hx Bd.returns (hb hby d6_37) hr
  · show Q6 Z a6_0 p6_1 p6_2 p6_3 p6_4 a6_5 p6_6 h0 n0 _ T42.heap _
    rw [e42]
    exact ⟨rfl, N42, K42, F43, F45, F46⟩
theorem d7_0 : decode prog_4_method_3_code 0 = .ok (.aload_n 0, 1) := by decide +kernel
theorem d7_1 : decode prog_4_method_3_code 1 = .ok (.getfield 7, 3) := by decide +kernel
theorem d7_4 : decode prog_4_method_3_code 4 = .ok (.iconst 1, 1) := by decide +kernel
theorem d7_5 : decode prog_4_method_3_code 5 = .ok (.isub, 1) := by decide +kernel
theorem d7_6 : decode prog_4_method_3_code 6 = .ok (.istore_n 2, 1) := by decide +kernel
theorem d7_7 : decode prog_4_method_3_code 7 = .ok (.iconst 0, 1) := by decide +kernel
theorem d7_8 : decode prog_4_method_3_code 8 = .ok (.istore_n 3, 1) := by decide +kernel
theorem d7_9 : decode prog_4_method_3_code 9 = .ok (.iload_n 1, 1) := by decide +kernel
theorem d7_10 : decode prog_4_method_3_code 10 = .ok (.ifCond .le 23, 3) := by decide +kernel
theorem d7_13 : decode prog_4_method_3_code 13 = .ok (.aload_n 0, 1) := by decide +kernel
theorem d7_14 : decode prog_4_method_3_code 14 = .ok (.getfield 13, 3) := by decide +kernel
theorem d7_17 : decode prog_4_method_3_code 17 = .ok (.iload_n 2, 1) := by decide +kernel
theorem d7_18 : decode prog_4_method_3_code 18 = .ok (.idiv, 1) := by decide +kernel
theorem d7_19 : decode prog_4_method_3_code 19 = .ok (.istore_n 3, 1) := by decide +kernel
theorem d7_20 : decode prog_4_method_3_code 20 = .ok (.iload_n 1, 1) := by decide +kernel
theorem d7_21 : decode prog_4_method_3_code 21 = .ok (.aload_n 0, 1) := by decide +kernel
theorem d7_22 : decode prog_4_method_3_code 22 = .ok (.getfield 13, 3) := by decide +kernel
theorem d7_25 : decode prog_4_method_3_code 25 = .ok (.iload_n 2, 1) := by decide +kernel
theorem d7_26 : decode prog_4_method_3_code 26 = .ok (.irem, 1) := by decide +kernel
theorem d7_27 : decode prog_4_method_3_code 27 = .ok (.if_icmp .gt 6, 3) := by decide +kernel
theorem d7_30 : decode prog_4_method_3_code 30 = .ok (.iinc 3 1, 3) := by decide +kernel
theorem d7_33 : decode prog_4_method_3_code 33 = .ok (.iload_n 3, 1) := by decide +kernel
theorem d7_34 : decode prog_4_method_3_code 34 = .ok (.ireturn, 1) := by decide +kernel
theorem ef_7 (m : MethodId) (a7_0 : Addr) (p7_1 : Int32) : entryFrame m #[(.ref a7_0), (.int p7_1)] 4 = mkF m 0 #[.val (.ref a7_0), .val (.int p7_1), .unset, .unset] [] := by first | (simp [entryFrame, mkF, argsToLocals, Value.category]; done) | rfl
def own_sub (p7_1 : Int32) (pr : Int32) (su : Int32) : Int32 := (if (0 : Int32) < p7_1 then (if (su % (pr - (1 : Int32))) < p7_1 then (su / (pr - (1 : Int32))) else ((su / (pr - (1 : Int32))) + (1 : Int32))) else (0 : Int32))
def Q7 (Z : State) (a7_0 : Addr) (p7_1 : Int32) (pr : Int32) (su : Int32) (h0 : Heap) (n0 : Nat) (v : Option Value) (h : Heap) (L : List Loc) : Prop := v = some (.int (own_sub p7_1 pr su)) ∧ Fr n0 L ∧ h = h0
set_option maxRecDepth 65536 in
set_option maxHeartbeats 40000000 in
theorem rm7 (l : Launch) (Z : State) (a0 : Array Value) (hw : ∀ d ∈ tables_1, d.before a0 Z = true) (ws : List Jvm.Cond) (a7_0 : Addr) (p7_1 : Int32) (pr : Int32) (su : Int32) (h0 : Heap) (n0 : Nat) (Z0 : n0 ≤ h0.size) (F1 : Fld Z h0 a7_0 "com/example/ratatoskr/ratatoskr/cli/Bench$Settings" "processes" "I" (.int pr)) (F2 : Fld Z h0 a7_0 "com/example/ratatoskr/ratatoskr/cli/Bench$Settings" "subscribers" "I" (.int su)) (hnz : ¬ ((pr - (1 : Int32)) = (0 : Int32))) :
    MetFree l (⟨"com/example/ratatoskr/ratatoskr/cli/Bench$Settings", "subscribersAt", "(I)I"⟩ : MethodName) (head1 (Jvm.Cond.code (⟨"com/example/ratatoskr/ratatoskr/cli/Bench$Settings", "subscribersAt", "(I)I"⟩ : MethodName) prog_4_method_3_code 4 (some .int) :: ws) ({ frames := 0, cells := 0, slots := 0, locals := 0 } : Room)) (fun a U => a = #[(.ref a7_0), (.int p7_1)] ∧ Z.Warmed39 U.vm ∧ U.heap = h0) (fun _ _ _ _ _ => True) (fun _ U o U' => ∃ v L, o = .returned v ∧ Q7 Z a7_0 p7_1 pr su h0 n0 v U'.heap L ∧ FrameEnd U o U' L ({ frames := 0, cells := 0, slots := 0, locals := 0 } : Room).cells ({ frames := 0, cells := 0, slots := 0, locals := 0 } : Room).slots) := by
  refine MetFree.of_bodySF (plainFor_of_name pn_3) hisR ?_
  intro p e s m args below meth c s₁ Bd hml0 hP hK
  obtain ⟨rfl, hZ, hh⟩ := hP
  have hx := Bd.exec
  have hby := Bd.bytes
  have hml : c.maxLocals = 4 := hml0
  have hown : s.vm.findClass "com/example/ratatoskr/ratatoskr/cli/Bench$Settings" = some m.cls := findClass_of_methodNamed Bd.named
  have hnm := (name_of_methodNamed Bd.named Bd.method).1
  have X0 : Stand p l e ({ frames := 0, cells := 0, slots := 0, locals := 0 } : Room) s m #[(.ref a7_0), (.int p7_1)] below meth c s₁ [] 0 0 := Stand.of_body Bd
  have e0 : s₁.heap = h0 := by rw [← hh, Bd.state]; rfl
  have N0 := Fr.nil n0
  have pre0 : ∀ t, Steps p.tables e below (s₁.setTop (mkF m 0 #[.val (.ref a7_0), .val (.int p7_1), .unset, .unset] [])) t → Steps p.tables e below (s₁.setTop (entryFrame m #[(.ref a7_0), (.int p7_1)] 4)) t := fun t k => castTop (ef_7 m a7_0 p7_1) k
  obtain ⟨T1, X1, e1, st1⟩ := getF X0 hx hZ hown (host := "") (Or.inl (hw _ (List.mem_of_getElem? (i := 39) rfl))) Via.refl e0 F1 (g := (mkF m 1 #[.val (.ref a7_0), .val (.int p7_1), .unset, .unset] [(.ref a7_0)])) rfl rfl (hb hby d7_1)
  have k2 : ∀ t, Steps p.tables e below (T1.setTop (mkF m 10 #[.val (.ref a7_0), .val (.int p7_1), .val (.int (pr - (1 : Int32))), .val (.int (0 : Int32))] [(.int p7_1)])) t → Steps p.tables e below (s₁.setTop (entryFrame m #[(.ref a7_0), (.int p7_1)] 4)) t := by
    intro t k
    refine pre0 t ?_
    show Steps p.tables e below (s₁.setTop (mkF m 0 #[.val (.ref a7_0), .val (.int p7_1), .unset, .unset] [])) _
    refine XS.aloadN X0.here hx rfl (hb hby d7_0) rfl rfl ?_
    show Steps p.tables e below (s₁.setTop (mkF m 1 #[.val (.ref a7_0), .val (.int p7_1), .unset, .unset] [(.ref a7_0)])) _
    refine st1 _ ?_
    show Steps p.tables e below (T1.setTop (mkF m 4 #[.val (.ref a7_0), .val (.int p7_1), .unset, .unset] [(.int pr)])) _
    refine XS.iconst X1.here hx rfl (hb hby d7_4) ?_
    show Steps p.tables e below (T1.setTop (mkF m 5 #[.val (.ref a7_0), .val (.int p7_1), .unset, .unset] [(.int (1 : Int32)), (.int pr)])) _
    refine XS.isub X1.here hx rfl (hb hby d7_5) rfl ?_
    show Steps p.tables e below (T1.setTop (mkF m 6 #[.val (.ref a7_0), .val (.int p7_1), .unset, .unset] [(.int (pr - (1 : Int32)))])) _
    refine XS.istoreN X1.here hx rfl (hb hby d7_6) rfl (l' := #[.val (.ref a7_0), .val (.int p7_1), .val (.int (pr - (1 : Int32))), .unset]) rfl ?_
    show Steps p.tables e below (T1.setTop (mkF m 7 #[.val (.ref a7_0), .val (.int p7_1), .val (.int (pr - (1 : Int32))), .unset] [])) _
    refine XS.iconst X1.here hx rfl (hb hby d7_7) ?_
    show Steps p.tables e below (T1.setTop (mkF m 8 #[.val (.ref a7_0), .val (.int p7_1), .val (.int (pr - (1 : Int32))), .unset] [(.int (0 : Int32))])) _
    refine XS.istoreN X1.here hx rfl (hb hby d7_8) rfl (l' := #[.val (.ref a7_0), .val (.int p7_1), .val (.int (pr - (1 : Int32))), .val (.int (0 : Int32))]) rfl ?_
    show Steps p.tables e below (T1.setTop (mkF m 9 #[.val (.ref a7_0), .val (.int p7_1), .val (.int (pr - (1 : Int32))), .val (.int (0 : Int32))] [])) _
    refine XS.iloadN X1.here hx rfl (hb hby d7_9) rfl ?_
    exact k
  by_cases hc10_3 : (0 : Int32) < p7_1
  · skip
    obtain ⟨T4, X4, e4, st4⟩ := getF X1 hx hZ hown (host := "") (Or.inl (hw _ (List.mem_of_getElem? (i := 41) rfl))) Via.refl e1 F2 (g := (mkF m 14 #[.val (.ref a7_0), .val (.int p7_1), .val (.int (pr - (1 : Int32))), .val (.int (0 : Int32))] [(.ref a7_0)])) rfl rfl (hb hby d7_14)
    obtain ⟨T5, X5, e5, st5⟩ := getF X4 hx hZ hown (host := "") (Or.inl (hw _ (List.mem_of_getElem? (i := 41) rfl))) Via.refl e4 F2 (g := (mkF m 22 #[.val (.ref a7_0), .val (.int p7_1), .val (.int (pr - (1 : Int32))), .val (.int (su / (pr - (1 : Int32))))] [(.ref a7_0), (.int p7_1)])) rfl rfl (hb hby d7_22)
    have k6 : ∀ t, Steps p.tables e below (T5.setTop (mkF m 27 #[.val (.ref a7_0), .val (.int p7_1), .val (.int (pr - (1 : Int32))), .val (.int (su / (pr - (1 : Int32))))] [(.int (su % (pr - (1 : Int32)))), (.int p7_1)])) t → Steps p.tables e below (s₁.setTop (entryFrame m #[(.ref a7_0), (.int p7_1)] 4)) t := by
      intro t k
      refine k2 t ?_
      show Steps p.tables e below (T1.setTop (mkF m 10 #[.val (.ref a7_0), .val (.int p7_1), .val (.int (pr - (1 : Int32))), .val (.int (0 : Int32))] [(.int p7_1)])) _
      refine XS.ifNo X1.here hx rfl (hb hby d7_10) rfl ((if0 _ _).trans (tlt hc10_3).2.2.2) ?_
      show Steps p.tables e below (T1.setTop (mkF m 13 #[.val (.ref a7_0), .val (.int p7_1), .val (.int (pr - (1 : Int32))), .val (.int (0 : Int32))] [])) _
      refine XS.aloadN X1.here hx rfl (hb hby d7_13) rfl rfl ?_
      show Steps p.tables e below (T1.setTop (mkF m 14 #[.val (.ref a7_0), .val (.int p7_1), .val (.int (pr - (1 : Int32))), .val (.int (0 : Int32))] [(.ref a7_0)])) _
      refine st4 _ ?_
      show Steps p.tables e below (T4.setTop (mkF m 17 #[.val (.ref a7_0), .val (.int p7_1), .val (.int (pr - (1 : Int32))), .val (.int (0 : Int32))] [(.int su)])) _
      refine XS.iloadN X4.here hx rfl (hb hby d7_17) rfl ?_
      show Steps p.tables e below (T4.setTop (mkF m 18 #[.val (.ref a7_0), .val (.int p7_1), .val (.int (pr - (1 : Int32))), .val (.int (0 : Int32))] [(.int (pr - (1 : Int32))), (.int su)])) _
      refine XS.idiv X4.here hx rfl (hb hby d7_18) rfl hnz ?_
      show Steps p.tables e below (T4.setTop (mkF m 19 #[.val (.ref a7_0), .val (.int p7_1), .val (.int (pr - (1 : Int32))), .val (.int (0 : Int32))] [(.int (su / (pr - (1 : Int32))))])) _
      refine XS.istoreN X4.here hx rfl (hb hby d7_19) rfl (l' := #[.val (.ref a7_0), .val (.int p7_1), .val (.int (pr - (1 : Int32))), .val (.int (su / (pr - (1 : Int32))))]) rfl ?_
      show Steps p.tables e below (T4.setTop (mkF m 20 #[.val (.ref a7_0), .val (.int p7_1), .val (.int (pr - (1 : Int32))), .val (.int (su / (pr - (1 : Int32))))] [])) _
      refine XS.iloadN X4.here hx rfl (hb hby d7_20) rfl ?_
      show Steps p.tables e below (T4.setTop (mkF m 21 #[.val (.ref a7_0), .val (.int p7_1), .val (.int (pr - (1 : Int32))), .val (.int (su / (pr - (1 : Int32))))] [(.int p7_1)])) _
      refine XS.aloadN X4.here hx rfl (hb hby d7_21) rfl rfl ?_
      show Steps p.tables e below (T4.setTop (mkF m 22 #[.val (.ref a7_0), .val (.int p7_1), .val (.int (pr - (1 : Int32))), .val (.int (su / (pr - (1 : Int32))))] [(.ref a7_0), (.int p7_1)])) _
      refine st5 _ ?_
      show Steps p.tables e below (T5.setTop (mkF m 25 #[.val (.ref a7_0), .val (.int p7_1), .val (.int (pr - (1 : Int32))), .val (.int (su / (pr - (1 : Int32))))] [(.int su), (.int p7_1)])) _
      refine XS.iloadN X5.here hx rfl (hb hby d7_25) rfl ?_
      show Steps p.tables e below (T5.setTop (mkF m 26 #[.val (.ref a7_0), .val (.int p7_1), .val (.int (pr - (1 : Int32))), .val (.int (su / (pr - (1 : Int32))))] [(.int (pr - (1 : Int32))), (.int su), (.int p7_1)])) _
      refine iremM X5 hx rfl (hb hby d7_26) rfl hnz ?_
      exact k
    by_cases hc27_7 : (su % (pr - (1 : Int32))) < p7_1
    · skip
      have k8 : ∀ t, Steps p.tables e below (T5.setTop (mkF m 34 #[.val (.ref a7_0), .val (.int p7_1), .val (.int (pr - (1 : Int32))), .val (.int (su / (pr - (1 : Int32))))] [(.int (su / (pr - (1 : Int32))))])) t → Steps p.tables e below (s₁.setTop (entryFrame m #[(.ref a7_0), (.int p7_1)] 4)) t := by
        intro t k
        refine k6 t ?_
        show Steps p.tables e below (T5.setTop (mkF m 27 #[.val (.ref a7_0), .val (.int p7_1), .val (.int (pr - (1 : Int32))), .val (.int (su / (pr - (1 : Int32))))] [(.int (su % (pr - (1 : Int32)))), (.int p7_1)])) _
        refine XS.icmpYes X5.here hx rfl (pc0 := 27) (pc' := 33) rfl (hb hby d7_27) rfl (tlt hc27_7).2.2.1 (by decide) (by decide) ?_
        show Steps p.tables e below (T5.setTop (mkF m 33 #[.val (.ref a7_0), .val (.int p7_1), .val (.int (pr - (1 : Int32))), .val (.int (su / (pr - (1 : Int32))))] [])) _
        refine XS.iloadN X5.here hx rfl (hb hby d7_33) rfl ?_
        exact k
      obtain ⟨fs, hr, hrun, hended, hW, hsame⟩ := X5.leave (v := some (.int (su / (pr - (1 : Int32))))) (fun h => by rw [Bd.returns] at h; cases h)
      refine ⟨_, _, k8 _ ?_, hrun, hended, _, _, rfl, ?_, ⟨_, rfl⟩, hW, hsame.mono (by decide) (by decide)⟩
      · exact retI X5 hx Bd.returns (hb hby d7_34) hr
      · show Q7 Z a7_0 p7_1 pr su h0 n0 _ T5.heap _
        rw [e5]
        exact ⟨congrArg (fun z => some (Value.int z)) (show ((su / (pr - (1 : Int32))) : Int32) = own_sub p7_1 pr su from by unfold own_sub; rw [if_pos hc10_3, if_pos hc27_7]), N0, rfl⟩
    · skip
      have k9 : ∀ t, Steps p.tables e below (T5.setTop (mkF m 34 #[.val (.ref a7_0), .val (.int p7_1), .val (.int (pr - (1 : Int32))), .val (.int ((su / (pr - (1 : Int32))) + (1 : Int32)))] [(.int ((su / (pr - (1 : Int32))) + (1 : Int32)))])) t → Steps p.tables e below (s₁.setTop (entryFrame m #[(.ref a7_0), (.int p7_1)] 4)) t := by
        intro t k
        refine k6 t ?_
        show Steps p.tables e below (T5.setTop (mkF m 27 #[.val (.ref a7_0), .val (.int p7_1), .val (.int (pr - (1 : Int32))), .val (.int (su / (pr - (1 : Int32))))] [(.int (su % (pr - (1 : Int32)))), (.int p7_1)])) _
        refine XS.icmpNo X5.here hx rfl (hb hby d7_27) rfl (flt hc27_7).2.2.1 ?_
        show Steps p.tables e below (T5.setTop (mkF m 30 #[.val (.ref a7_0), .val (.int p7_1), .val (.int (pr - (1 : Int32))), .val (.int (su / (pr - (1 : Int32))))] [])) _
        refine XS.iinc X5.here hx rfl (hb hby d7_30) rfl (l' := #[.val (.ref a7_0), .val (.int p7_1), .val (.int (pr - (1 : Int32))), .val (.int ((su / (pr - (1 : Int32))) + (1 : Int32)))]) rfl ?_
        show Steps p.tables e below (T5.setTop (mkF m 33 #[.val (.ref a7_0), .val (.int p7_1), .val (.int (pr - (1 : Int32))), .val (.int ((su / (pr - (1 : Int32))) + (1 : Int32)))] [])) _
        refine XS.iloadN X5.here hx rfl (hb hby d7_33) rfl ?_
        exact k
      obtain ⟨fs, hr, hrun, hended, hW, hsame⟩ := X5.leave (v := some (.int ((su / (pr - (1 : Int32))) + (1 : Int32)))) (fun h => by rw [Bd.returns] at h; cases h)
      refine ⟨_, _, k9 _ ?_, hrun, hended, _, _, rfl, ?_, ⟨_, rfl⟩, hW, hsame.mono (by decide) (by decide)⟩
      · exact retI X5 hx Bd.returns (hb hby d7_34) hr
      · show Q7 Z a7_0 p7_1 pr su h0 n0 _ T5.heap _
        rw [e5]
        exact ⟨congrArg (fun z => some (Value.int z)) (show (((su / (pr - (1 : Int32))) + (1 : Int32)) : Int32) = own_sub p7_1 pr su from by unfold own_sub; rw [if_pos hc10_3, if_neg hc27_7]), N0, rfl⟩
  · skip
    have k10 : ∀ t, Steps p.tables e below (T1.setTop (mkF m 34 #[.val (.ref a7_0), .val (.int p7_1), .val (.int (pr - (1 : Int32))), .val (.int (0 : Int32))] [(.int (0 : Int32))])) t → Steps p.tables e below (s₁.setTop (entryFrame m #[(.ref a7_0), (.int p7_1)] 4)) t := by
      intro t k
      refine k2 t ?_
      show Steps p.tables e below (T1.setTop (mkF m 10 #[.val (.ref a7_0), .val (.int p7_1), .val (.int (pr - (1 : Int32))), .val (.int (0 : Int32))] [(.int p7_1)])) _
      refine XS.ifYes X1.here hx rfl (pc0 := 10) (pc' := 33) rfl (hb hby d7_10) rfl ((if0 _ _).trans (flt hc10_3).2.2.2) (by decide) (by decide) ?_
      show Steps p.tables e below (T1.setTop (mkF m 33 #[.val (.ref a7_0), .val (.int p7_1), .val (.int (pr - (1 : Int32))), .val (.int (0 : Int32))] [])) _
      refine XS.iloadN X1.here hx rfl (hb hby d7_33) rfl ?_
      exact k
    obtain ⟨fs, hr, hrun, hended, hW, hsame⟩ := X1.leave (v := some (.int (0 : Int32))) (fun h => by rw [Bd.returns] at h; cases h)
    refine ⟨_, _, k10 _ ?_, hrun, hended, _, _, rfl, ?_, ⟨_, rfl⟩, hW, hsame.mono (by decide) (by decide)⟩
    · exact retI X1 hx Bd.returns (hb hby d7_34) hr
    · show Q7 Z a7_0 p7_1 pr su h0 n0 _ T1.heap _
      rw [e1]
      exact ⟨congrArg (fun z => some (Value.int z)) (show ((0 : Int32) : Int32) = own_sub p7_1 pr su from by unfold own_sub; rw [if_neg hc10_3]), N0, rfl⟩
theorem pn_4 : plainName "com/example/ratatoskr/ratatoskr/cli/SettingsSubscribersAtPinLaw" = true := by first | (simp [plainName, overriddenIn]; done) | decide +kernel
theorem d8_0 : decode method_3_code 0 = .ok (.iload_n 2, 1) := by decide +kernel
theorem d8_1 : decode method_3_code 1 = .ok (.ifCond .ne 5, 3) := by decide +kernel
theorem d8_4 : decode method_3_code 4 = .ok (.lconst 0, 1) := by decide +kernel
theorem d8_5 : decode method_3_code 5 = .ok (.lreturn, 1) := by decide +kernel
theorem d8_6 : decode method_3_code 6 = .ok (.iload_n 0, 1) := by decide +kernel
theorem d8_7 : decode method_3_code 7 = .ok (.i2l, 1) := by decide +kernel
theorem d8_8 : decode method_3_code 8 = .ok (.lconst 1, 1) := by decide +kernel
theorem d8_9 : decode method_3_code 9 = .ok (.lsub, 1) := by decide +kernel
theorem d8_10 : decode method_3_code 10 = .ok (.lstore_n 3, 1) := by decide +kernel
theorem d8_11 : decode method_3_code 11 = .ok (.iload_n 2, 1) := by decide +kernel
theorem d8_12 : decode method_3_code 12 = .ok (.i2l, 1) := by decide +kernel
theorem d8_13 : decode method_3_code 13 = .ok (.lconst 1, 1) := by decide +kernel
theorem d8_14 : decode method_3_code 14 = .ok (.lsub, 1) := by decide +kernel
theorem d8_15 : decode method_3_code 15 = .ok (.lstore 5, 2) := by decide +kernel
theorem d8_17 : decode method_3_code 17 = .ok (.iload_n 1, 1) := by decide +kernel
theorem d8_18 : decode method_3_code 18 = .ok (.i2l, 1) := by decide +kernel
theorem d8_19 : decode method_3_code 19 = .ok (.lload_n 3, 1) := by decide +kernel
theorem d8_20 : decode method_3_code 20 = .ok (.ladd, 1) := by decide +kernel
theorem d8_21 : decode method_3_code 21 = .ok (.lconst 1, 1) := by decide +kernel
theorem d8_22 : decode method_3_code 22 = .ok (.lsub, 1) := by decide +kernel
theorem d8_23 : decode method_3_code 23 = .ok (.lload 5, 2) := by decide +kernel
theorem d8_25 : decode method_3_code 25 = .ok (.lsub, 1) := by decide +kernel
theorem d8_26 : decode method_3_code 26 = .ok (.lload_n 3, 1) := by decide +kernel
theorem d8_27 : decode method_3_code 27 = .ok (.ldiv, 1) := by decide +kernel
theorem d8_28 : decode method_3_code 28 = .ok (.lreturn, 1) := by decide +kernel
theorem ef_8 (m : MethodId) (p8_0 : Int32) (p8_1 : Int32) (p8_2 : Int32) : entryFrame m #[(.int p8_0), (.int p8_1), (.int p8_2)] 7 = mkF m 0 #[.val (.int p8_0), .val (.int p8_1), .val (.int p8_2), .unset, .unset, .unset, .unset] [] := by first | (simp [entryFrame, mkF, argsToLocals, Value.category]; done) | rfl
def own_exd (p8_0 : Int32) (p8_1 : Int32) (p8_2 : Int32) : Int64 := (if p8_2 = (0 : Int32) then (0 : Int64) else ((((p8_1.toInt64 + (p8_0.toInt64 - (1 : Int64))) - (1 : Int64)) - (p8_2.toInt64 - (1 : Int64))) / (p8_0.toInt64 - (1 : Int64))))
def Q8 (Z : State) (p8_0 : Int32) (p8_1 : Int32) (p8_2 : Int32) (h0 : Heap) (n0 : Nat) (v : Option Value) (h : Heap) (L : List Loc) : Prop := v = some (.long (own_exd p8_0 p8_1 p8_2)) ∧ Fr n0 L ∧ h = h0
set_option maxRecDepth 65536 in
set_option maxHeartbeats 40000000 in
theorem rm8 (l : Launch) (Z : State) (a0 : Array Value) (hw : ∀ d ∈ tables_1, d.before a0 Z = true) (ws : List Jvm.Cond) (p8_0 : Int32) (p8_1 : Int32) (p8_2 : Int32) (h0 : Heap) (n0 : Nat) (Z0 : n0 ≤ h0.size) (hnz : ¬ ((p8_0.toInt64 - (1 : Int64)) = (0 : Int64))) :
    MetFree l (⟨"com/example/ratatoskr/ratatoskr/cli/SettingsSubscribersAtPinLaw", "expected", "(III)J"⟩ : MethodName) (head1 (Jvm.Cond.code (⟨"com/example/ratatoskr/ratatoskr/cli/SettingsSubscribersAtPinLaw", "expected", "(III)J"⟩ : MethodName) method_3_code 7 (some .long) :: ws) ({ frames := 0, cells := 0, slots := 0, locals := 0 } : Room)) (fun a U => a = #[(.int p8_0), (.int p8_1), (.int p8_2)] ∧ Z.Warmed39 U.vm ∧ U.heap = h0) (fun _ _ _ _ _ => True) (fun _ U o U' => ∃ v L, o = .returned v ∧ Q8 Z p8_0 p8_1 p8_2 h0 n0 v U'.heap L ∧ FrameEnd U o U' L ({ frames := 0, cells := 0, slots := 0, locals := 0 } : Room).cells ({ frames := 0, cells := 0, slots := 0, locals := 0 } : Room).slots) := by
  refine MetFree.of_bodySF (plainFor_of_name pn_4) hisR ?_
  intro p e s m args below meth c s₁ Bd hml0 hP hK
  obtain ⟨rfl, hZ, hh⟩ := hP
  have hx := Bd.exec
  have hby := Bd.bytes
  have hml : c.maxLocals = 7 := hml0
  have hown : s.vm.findClass "com/example/ratatoskr/ratatoskr/cli/SettingsSubscribersAtPinLaw" = some m.cls := findClass_of_methodNamed Bd.named
  have hnm := (name_of_methodNamed Bd.named Bd.method).1
  have X0 : Stand p l e ({ frames := 0, cells := 0, slots := 0, locals := 0 } : Room) s m #[(.int p8_0), (.int p8_1), (.int p8_2)] below meth c s₁ [] 0 0 := Stand.of_body Bd
  have e0 : s₁.heap = h0 := by rw [← hh, Bd.state]; rfl
  have N0 := Fr.nil n0
  have pre0 : ∀ t, Steps p.tables e below (s₁.setTop (mkF m 0 #[.val (.int p8_0), .val (.int p8_1), .val (.int p8_2), .unset, .unset, .unset, .unset] [])) t → Steps p.tables e below (s₁.setTop (entryFrame m #[(.int p8_0), (.int p8_1), (.int p8_2)] 7)) t := fun t k => castTop (ef_8 m p8_0 p8_1 p8_2) k
  have k1 : ∀ t, Steps p.tables e below (s₁.setTop (mkF m 1 #[.val (.int p8_0), .val (.int p8_1), .val (.int p8_2), .unset, .unset, .unset, .unset] [(.int p8_2)])) t → Steps p.tables e below (s₁.setTop (entryFrame m #[(.int p8_0), (.int p8_1), (.int p8_2)] 7)) t := by
    intro t k
    refine pre0 t ?_
    show Steps p.tables e below (s₁.setTop (mkF m 0 #[.val (.int p8_0), .val (.int p8_1), .val (.int p8_2), .unset, .unset, .unset, .unset] [])) _
    refine XS.iloadN X0.here hx rfl (hb hby d8_0) rfl ?_
    exact k
  by_cases hc1_2 : p8_2 = (0 : Int32)
  · skip
    have k3 : ∀ t, Steps p.tables e below (s₁.setTop (mkF m 5 #[.val (.int p8_0), .val (.int p8_1), .val (.int p8_2), .unset, .unset, .unset, .unset] [(.long (0 : Int64))])) t → Steps p.tables e below (s₁.setTop (entryFrame m #[(.int p8_0), (.int p8_1), (.int p8_2)] 7)) t := by
      intro t k
      refine k1 t ?_
      show Steps p.tables e below (s₁.setTop (mkF m 1 #[.val (.int p8_0), .val (.int p8_1), .val (.int p8_2), .unset, .unset, .unset, .unset] [(.int p8_2)])) _
      refine XS.ifNo X0.here hx rfl (hb hby d8_1) rfl ((if0 _ _).trans (teq hc1_2).2) ?_
      show Steps p.tables e below (s₁.setTop (mkF m 4 #[.val (.int p8_0), .val (.int p8_1), .val (.int p8_2), .unset, .unset, .unset, .unset] [])) _
      refine XS.lconst X0.here hx rfl (hb hby d8_4) ?_
      exact k
    obtain ⟨fs, hr, hrun, hended, hW, hsame⟩ := X0.leave (v := some (.long (0 : Int64))) (fun h => by rw [Bd.returns] at h; cases h)
    refine ⟨_, _, k3 _ ?_, hrun, hended, _, _, rfl, ?_, ⟨_, rfl⟩, hW, hsame.mono (by decide) (by decide)⟩
    · exact retOut X0 hx Bd.returns rfl (Or.inr (Or.inl ⟨rfl, rfl, _, rfl⟩)) (hb hby d8_5) hr
    · show Q8 Z p8_0 p8_1 p8_2 h0 n0 _ s₁.heap _
      rw [e0]
      exact ⟨congrArg (fun z => some (Value.long z)) (show ((0 : Int64) : Int64) = own_exd p8_0 p8_1 p8_2 from by unfold own_exd; rw [if_pos hc1_2]), N0, rfl⟩
  · skip
    have k4 : ∀ t, Steps p.tables e below (s₁.setTop (mkF m 28 #[.val (.int p8_0), .val (.int p8_1), .val (.int p8_2), .val (.long (p8_0.toInt64 - (1 : Int64))), .second, .val (.long (p8_2.toInt64 - (1 : Int64))), .second] [(.long ((((p8_1.toInt64 + (p8_0.toInt64 - (1 : Int64))) - (1 : Int64)) - (p8_2.toInt64 - (1 : Int64))) / (p8_0.toInt64 - (1 : Int64))))])) t → Steps p.tables e below (s₁.setTop (entryFrame m #[(.int p8_0), (.int p8_1), (.int p8_2)] 7)) t := by
      intro t k
      refine k1 t ?_
      show Steps p.tables e below (s₁.setTop (mkF m 1 #[.val (.int p8_0), .val (.int p8_1), .val (.int p8_2), .unset, .unset, .unset, .unset] [(.int p8_2)])) _
      refine XS.ifYes X0.here hx rfl (pc0 := 1) (pc' := 6) rfl (hb hby d8_1) rfl ((if0 _ _).trans (feq hc1_2).2) (by decide) (by decide) ?_
      show Steps p.tables e below (s₁.setTop (mkF m 6 #[.val (.int p8_0), .val (.int p8_1), .val (.int p8_2), .unset, .unset, .unset, .unset] [])) _
      refine XS.iloadN X0.here hx rfl (hb hby d8_6) rfl ?_
      show Steps p.tables e below (s₁.setTop (mkF m 7 #[.val (.int p8_0), .val (.int p8_1), .val (.int p8_2), .unset, .unset, .unset, .unset] [(.int p8_0)])) _
      refine XS.i2l X0.here hx rfl (hb hby d8_7) rfl ?_
      show Steps p.tables e below (s₁.setTop (mkF m 8 #[.val (.int p8_0), .val (.int p8_1), .val (.int p8_2), .unset, .unset, .unset, .unset] [(.long p8_0.toInt64)])) _
      refine XS.lconst X0.here hx rfl (hb hby d8_8) ?_
      show Steps p.tables e below (s₁.setTop (mkF m 9 #[.val (.int p8_0), .val (.int p8_1), .val (.int p8_2), .unset, .unset, .unset, .unset] [(.long (1 : Int64)), (.long p8_0.toInt64)])) _
      refine XS.lsub X0.here hx rfl (hb hby d8_9) rfl ?_
      show Steps p.tables e below (s₁.setTop (mkF m 10 #[.val (.int p8_0), .val (.int p8_1), .val (.int p8_2), .unset, .unset, .unset, .unset] [(.long (p8_0.toInt64 - (1 : Int64)))])) _
      refine XS.lstoreN X0.here hx rfl (hb hby d8_10) rfl (l' := #[.val (.int p8_0), .val (.int p8_1), .val (.int p8_2), .val (.long (p8_0.toInt64 - (1 : Int64))), .second, .unset, .unset]) rfl ?_
      show Steps p.tables e below (s₁.setTop (mkF m 11 #[.val (.int p8_0), .val (.int p8_1), .val (.int p8_2), .val (.long (p8_0.toInt64 - (1 : Int64))), .second, .unset, .unset] [])) _
      refine XS.iloadN X0.here hx rfl (hb hby d8_11) rfl ?_
      show Steps p.tables e below (s₁.setTop (mkF m 12 #[.val (.int p8_0), .val (.int p8_1), .val (.int p8_2), .val (.long (p8_0.toInt64 - (1 : Int64))), .second, .unset, .unset] [(.int p8_2)])) _
      refine XS.i2l X0.here hx rfl (hb hby d8_12) rfl ?_
      show Steps p.tables e below (s₁.setTop (mkF m 13 #[.val (.int p8_0), .val (.int p8_1), .val (.int p8_2), .val (.long (p8_0.toInt64 - (1 : Int64))), .second, .unset, .unset] [(.long p8_2.toInt64)])) _
      refine XS.lconst X0.here hx rfl (hb hby d8_13) ?_
      show Steps p.tables e below (s₁.setTop (mkF m 14 #[.val (.int p8_0), .val (.int p8_1), .val (.int p8_2), .val (.long (p8_0.toInt64 - (1 : Int64))), .second, .unset, .unset] [(.long (1 : Int64)), (.long p8_2.toInt64)])) _
      refine XS.lsub X0.here hx rfl (hb hby d8_14) rfl ?_
      show Steps p.tables e below (s₁.setTop (mkF m 15 #[.val (.int p8_0), .val (.int p8_1), .val (.int p8_2), .val (.long (p8_0.toInt64 - (1 : Int64))), .second, .unset, .unset] [(.long (p8_2.toInt64 - (1 : Int64)))])) _
      refine XS.lstore X0.here hx rfl (hb hby d8_15) rfl (l' := #[.val (.int p8_0), .val (.int p8_1), .val (.int p8_2), .val (.long (p8_0.toInt64 - (1 : Int64))), .second, .val (.long (p8_2.toInt64 - (1 : Int64))), .second]) rfl ?_
      show Steps p.tables e below (s₁.setTop (mkF m 17 #[.val (.int p8_0), .val (.int p8_1), .val (.int p8_2), .val (.long (p8_0.toInt64 - (1 : Int64))), .second, .val (.long (p8_2.toInt64 - (1 : Int64))), .second] [])) _
      refine XS.iloadN X0.here hx rfl (hb hby d8_17) rfl ?_
      show Steps p.tables e below (s₁.setTop (mkF m 18 #[.val (.int p8_0), .val (.int p8_1), .val (.int p8_2), .val (.long (p8_0.toInt64 - (1 : Int64))), .second, .val (.long (p8_2.toInt64 - (1 : Int64))), .second] [(.int p8_1)])) _
      refine XS.i2l X0.here hx rfl (hb hby d8_18) rfl ?_
      show Steps p.tables e below (s₁.setTop (mkF m 19 #[.val (.int p8_0), .val (.int p8_1), .val (.int p8_2), .val (.long (p8_0.toInt64 - (1 : Int64))), .second, .val (.long (p8_2.toInt64 - (1 : Int64))), .second] [(.long p8_1.toInt64)])) _
      refine XS.lloadN X0.here hx rfl (hb hby d8_19) rfl ?_
      show Steps p.tables e below (s₁.setTop (mkF m 20 #[.val (.int p8_0), .val (.int p8_1), .val (.int p8_2), .val (.long (p8_0.toInt64 - (1 : Int64))), .second, .val (.long (p8_2.toInt64 - (1 : Int64))), .second] [(.long (p8_0.toInt64 - (1 : Int64))), (.long p8_1.toInt64)])) _
      refine XS.ladd X0.here hx rfl (hb hby d8_20) rfl ?_
      show Steps p.tables e below (s₁.setTop (mkF m 21 #[.val (.int p8_0), .val (.int p8_1), .val (.int p8_2), .val (.long (p8_0.toInt64 - (1 : Int64))), .second, .val (.long (p8_2.toInt64 - (1 : Int64))), .second] [(.long (p8_1.toInt64 + (p8_0.toInt64 - (1 : Int64))))])) _
      refine XS.lconst X0.here hx rfl (hb hby d8_21) ?_
      show Steps p.tables e below (s₁.setTop (mkF m 22 #[.val (.int p8_0), .val (.int p8_1), .val (.int p8_2), .val (.long (p8_0.toInt64 - (1 : Int64))), .second, .val (.long (p8_2.toInt64 - (1 : Int64))), .second] [(.long (1 : Int64)), (.long (p8_1.toInt64 + (p8_0.toInt64 - (1 : Int64))))])) _
      refine XS.lsub X0.here hx rfl (hb hby d8_22) rfl ?_
      show Steps p.tables e below (s₁.setTop (mkF m 23 #[.val (.int p8_0), .val (.int p8_1), .val (.int p8_2), .val (.long (p8_0.toInt64 - (1 : Int64))), .second, .val (.long (p8_2.toInt64 - (1 : Int64))), .second] [(.long ((p8_1.toInt64 + (p8_0.toInt64 - (1 : Int64))) - (1 : Int64)))])) _
      refine XS.lload X0.here hx rfl (hb hby d8_23) rfl ?_
      show Steps p.tables e below (s₁.setTop (mkF m 25 #[.val (.int p8_0), .val (.int p8_1), .val (.int p8_2), .val (.long (p8_0.toInt64 - (1 : Int64))), .second, .val (.long (p8_2.toInt64 - (1 : Int64))), .second] [(.long (p8_2.toInt64 - (1 : Int64))), (.long ((p8_1.toInt64 + (p8_0.toInt64 - (1 : Int64))) - (1 : Int64)))])) _
      refine XS.lsub X0.here hx rfl (hb hby d8_25) rfl ?_
      show Steps p.tables e below (s₁.setTop (mkF m 26 #[.val (.int p8_0), .val (.int p8_1), .val (.int p8_2), .val (.long (p8_0.toInt64 - (1 : Int64))), .second, .val (.long (p8_2.toInt64 - (1 : Int64))), .second] [(.long (((p8_1.toInt64 + (p8_0.toInt64 - (1 : Int64))) - (1 : Int64)) - (p8_2.toInt64 - (1 : Int64))))])) _
      refine XS.lloadN X0.here hx rfl (hb hby d8_26) rfl ?_
      show Steps p.tables e below (s₁.setTop (mkF m 27 #[.val (.int p8_0), .val (.int p8_1), .val (.int p8_2), .val (.long (p8_0.toInt64 - (1 : Int64))), .second, .val (.long (p8_2.toInt64 - (1 : Int64))), .second] [(.long (p8_0.toInt64 - (1 : Int64))), (.long (((p8_1.toInt64 + (p8_0.toInt64 - (1 : Int64))) - (1 : Int64)) - (p8_2.toInt64 - (1 : Int64))))])) _
      refine XS.ldiv X0.here hx rfl (hb hby d8_27) rfl hnz ?_
      exact k
    obtain ⟨fs, hr, hrun, hended, hW, hsame⟩ := X0.leave (v := some (.long ((((p8_1.toInt64 + (p8_0.toInt64 - (1 : Int64))) - (1 : Int64)) - (p8_2.toInt64 - (1 : Int64))) / (p8_0.toInt64 - (1 : Int64))))) (fun h => by rw [Bd.returns] at h; cases h)
    refine ⟨_, _, k4 _ ?_, hrun, hended, _, _, rfl, ?_, ⟨_, rfl⟩, hW, hsame.mono (by decide) (by decide)⟩
    · exact retOut X0 hx Bd.returns rfl (Or.inr (Or.inl ⟨rfl, rfl, _, rfl⟩)) (hb hby d8_28) hr
    · show Q8 Z p8_0 p8_1 p8_2 h0 n0 _ s₁.heap _
      rw [e0]
      exact ⟨congrArg (fun z => some (Value.long z)) (show (((((p8_1.toInt64 + (p8_0.toInt64 - (1 : Int64))) - (1 : Int64)) - (p8_2.toInt64 - (1 : Int64))) / (p8_0.toInt64 - (1 : Int64))) : Int64) = own_exd p8_0 p8_1 p8_2 from by unfold own_exd; rw [if_neg hc1_2]), N0, rfl⟩
theorem own_pos (x : Int32) : 0 ≤ (x &&& (2147483647 : Int32)).toInt ∧ (x &&& (2147483647 : Int32)).toInt < 2147483648 := by
  have h := c_mask x 2147483647 31 (by decide) (by decide)
  rw [h]; omega
theorem own_P (x : Int32) : 2 ≤ (own_max (2 : Int32) (x &&& (2147483647 : Int32))).toInt := by
  have h := own_pos x
  unfold own_max
  split
  · rename_i q; rw [own_lt, show (2 : Int32).toInt = 2 from rfl] at q; omega
  · show 2 ≤ (2 : Int32).toInt; decide
theorem own_rem (x P : Int32) (hP : 2 ≤ P.toInt) : 0 ≤ ((x &&& (2147483647 : Int32)) % P).toInt ∧ ((x &&& (2147483647 : Int32)) % P).toInt < P.toInt := by
  have h := own_pos x
  have q := (c_iremV (x &&& (2147483647 : Int32)) P).1 h.1 (by omega)
  exact ⟨q.1, q.2.1⟩
theorem own_nz1 (P : Int32) (hP : 2 ≤ P.toInt) : ¬ ((P - (1 : Int32)) = (0 : Int32)) := by
  have c1 := c_isub P 1
  have r1 := rng32 P
  have r2 := rng32 (P - 1)
  rw [show (1 : Int32).toInt = 1 from rfl] at c1
  rw [own_eqi, show (0 : Int32).toInt = 0 from rfl]; omega
theorem own_nz0 (P : Int32) (hP : 2 ≤ P.toInt) : ¬ (P = (0 : Int32)) := by
  rw [own_eqi, show (0 : Int32).toInt = 0 from rfl]; omega
theorem own_nz2 (P : Int32) (hP : 2 ≤ P.toInt) : ¬ ((P.toInt64 - (1 : Int64)) = (0 : Int64)) := by
  have c1 := c_lsub P.toInt64 1
  have r1 := rng32 P
  have r2 := rng64 (P.toInt64 - 1)
  rw [show (1 : Int64).toInt = 1 from rfl, c_i2l] at c1
  rw [own_eqL, show (0 : Int64).toInt = 0 from rfl]; omega
theorem own_div (s o i : Int) (ho : 1 ≤ o) (hi : 1 ≤ i) (hi2 : i ≤ o) : (s + o - i) / o = s / o + (if s % o < i then 0 else 1) := by
  have e := Int.mul_ediv_add_emod s o
  have r0 := Int.emod_nonneg s (show o ≠ 0 by omega)
  have r1 := Int.emod_lt_of_pos s (show 0 < o by omega)
  have e2 : s + o - i = (s % o - i) + o * (s / o + 1) := by rw [Int.mul_add]; omega
  rw [e2, Int.add_mul_ediv_left _ _ (show o ≠ 0 by omega)]
  split
  · have e3 : (s % o - i) / o = -1 := by
      rw [show s % o - i = (s % o - i + o) + o * (-1) by omega, Int.add_mul_ediv_left _ _ (show o ≠ 0 by omega), Int.ediv_eq_zero_of_lt (by omega) (by omega)]; omega
    omega
  · have e3 : (s % o - i) / o = 0 := Int.ediv_eq_zero_of_lt (by omega) (by omega)
    omega
theorem own_law (P i s : Int32) (hP : 2 ≤ P.toInt) (hi0 : 0 ≤ i.toInt) (hi : i.toInt < P.toInt) (hs : 0 ≤ s.toInt) : (own_sub i P s).toInt64 = own_exd P s i := by
  have o1 : (P - 1).toInt = P.toInt - 1 := by
    have c1 := c_isub P 1
    have r1 := rng32 P
    have r2 := rng32 (P - 1)
    rw [show (1 : Int32).toInt = 1 from rfl] at c1
    omega
  have o2 : (P.toInt64 - 1).toInt = P.toInt - 1 := by
    have c1 := c_lsub P.toInt64 1
    have r1 := rng32 P
    have r2 := rng64 (P.toInt64 - 1)
    rw [show (1 : Int64).toInt = 1 from rfl, c_i2l] at c1
    omega
  by_cases h0 : i = 0
  · subst h0; unfold own_sub own_exd; simp
  · have hi1 : 1 ≤ i.toInt := by rw [own_eqi, show (0 : Int32).toInt = 0 from rfl] at h0; omega
    have hpos : (0 : Int32) < i := by rw [own_lt, show (0 : Int32).toInt = 0 from rfl]; omega
    have d1 := (c_idiv s (P - 1) (P.toInt - 1) o1 (by rw [Ne, own_eqi, o1, show (-1 : Int32).toInt = -1 from rfl]; omega)).1 hs
    have d2 := (c_irem s (P - 1) (P.toInt - 1) o1).1 hs
    have n1 : (s.toInt64 + (P.toInt64 - 1) - 1 - (i.toInt64 - 1)).toInt = s.toInt + (P.toInt - 1) - i.toInt := by
      have a1 := c_ladd s.toInt64 (P.toInt64 - 1)
      have a2 := c_lsub (s.toInt64 + (P.toInt64 - 1)) 1
      have a3 := c_lsub i.toInt64 1
      have a4 := c_lsub (s.toInt64 + (P.toInt64 - 1) - 1) (i.toInt64 - 1)
      have b1 := rng64 (s.toInt64 + (P.toInt64 - 1))
      have b2 := rng64 (s.toInt64 + (P.toInt64 - 1) - 1)
      have b3 := rng64 (i.toInt64 - 1)
      have b4 := rng64 (s.toInt64 + (P.toInt64 - 1) - 1 - (i.toInt64 - 1))
      have r1 := rng32 P
      have r2 := rng32 s
      have r3 := rng32 i
      rw [c_i2l, o2] at a1
      rw [show (1 : Int64).toInt = 1 from rfl] at a2
      rw [show (1 : Int64).toInt = 1 from rfl, c_i2l] at a3
      omega
    have q1 := (c_ldiv (s.toInt64 + (P.toInt64 - 1) - 1 - (i.toInt64 - 1)) (P.toInt64 - 1) (P.toInt - 1) o2 (by rw [Ne, own_eqL, o2, show (-1 : Int64).toInt = -1 from rfl]; omega)).1 (by rw [n1]; omega)
    rw [n1, own_div _ _ _ (by omega) hi1 (by omega)] at q1
    rw [own_eqL, c_i2l]
    unfold own_exd
    rw [if_neg h0]
    rw [q1]
    unfold own_sub
    rw [if_pos hpos]
    have hq0 : 0 ≤ s.toInt / (P.toInt - 1) := Int.ediv_nonneg hs (by omega)
    have hm1 := Int.emod_lt_of_pos s.toInt (show 0 < P.toInt - 1 by omega)
    have hm0 := Int.emod_nonneg s.toInt (show P.toInt - 1 ≠ 0 by omega)
    split
    · rename_i hc
      rw [own_lt, d2] at hc
      rw [d1, if_pos hc]; omega
    · rename_i hc
      rw [own_lt, d2] at hc
      rw [if_neg hc]
      have a1 := c_iadd (s / (P - 1)) 1
      have b1 := rng32 (s / (P - 1) + 1)
      have b2 := rng32 s
      rw [show (1 : Int32).toInt = 1 from rfl, d1] at a1
      have hle : s.toInt / (P.toInt - 1) + 1 ≤ s.toInt := by
        have e := Int.mul_ediv_add_emod s.toInt (P.toInt - 1)
        have hm : s.toInt / (P.toInt - 1) ≤ (P.toInt - 1) * (s.toInt / (P.toInt - 1)) := by
          have := Int.mul_le_mul_of_nonneg_right (show 1 ≤ P.toInt - 1 by omega) hq0
          omega
        omega
      omega
theorem pd_2 : parseMethodDescriptor "(II)I" = some ⟨[.int, .int], some .int⟩ := by decide +kernel
theorem pd_3 : parseMethodDescriptor "(J)Ljava/lang/Long;" = some ⟨[.long], some (.object "java/lang/Long")⟩ := by decide +kernel
theorem pd_4 : parseMethodDescriptor "(IIIILjava/lang/Long;I)V" = some ⟨[.int, .int, .int, .int, (.object "java/lang/Long"), .int], none⟩ := by decide +kernel
theorem pd_5 : parseMethodDescriptor "(I)I" = some ⟨[.int], some .int⟩ := by decide +kernel
theorem pd_6 : parseMethodDescriptor "(III)J" = some ⟨[.int, .int, .int], some .long⟩ := by decide +kernel
theorem ef_0 (m : MethodId) (p0_0 : Int32) (p0_1 : Int32) (p0_2 : Int32) (p0_3 : Int32) (q0_4 : Int64) (p0_5 : Int32) : entryFrame m #[(.int p0_0), (.int p0_1), (.int p0_2), (.int p0_3), (.long q0_4), (.int p0_5)] maxLocals = mkF m 0 #[.val (.int p0_0), .val (.int p0_1), .val (.int p0_2), .val (.int p0_3), .val (.long q0_4), .second, .val (.int p0_5), .unset, .unset, .unset, .unset, .unset] [] := by first | (simp [entryFrame, mkF, argsToLocals, Value.category, maxLocals]; done) | rfl
def Q0 (Z : State) (p0_0 : Int32) (p0_1 : Int32) (p0_2 : Int32) (p0_3 : Int32) (q0_4 : Int64) (p0_5 : Int32) (u_cache : Addr) (cl_cache : Cell) (h0 : Heap) (n0 : Nat) (v : Option Value) (h : Heap) (L : List Loc) : Prop := v = some (.int (1 : Int32)) ∧ Fr n0 L
set_option maxRecDepth 65536 in
set_option maxHeartbeats 40000000 in
theorem rm0 (l : Launch) (Z : State) (a0 : Array Value) (hw : ∀ d ∈ tables_1, d.before a0 Z = true) (ws : List Jvm.Cond) (p0_0 : Int32) (p0_1 : Int32) (p0_2 : Int32) (p0_3 : Int32) (q0_4 : Int64) (p0_5 : Int32) (u_cache : Addr) (cl_cache : Cell) (h0 : Heap) (n0 : Nat) (Z0 : n0 ≤ h0.size) (Sc : Sta Z h0 "java/lang/Long$LongCache" "cache" "[Ljava/lang/Long;" (.ref u_cache)) (Ac : Arr Z h0 u_cache cl_cache (.object "java/lang/Long")) (hsz : cl_cache.slots.size = (256 : Int32).toNatClampNeg) (hall : ∀ j : Int32, ¬ (j < 0 ∨ cl_cache.slots.size ≤ j.toNatClampNeg) → ∃ x : Addr, cl_cache.slots[j.toNatClampNeg]? = some (.ref x)) :
    MetFree l x (head1 (Jvm.Cond.code x code maxLocals ret :: ws) room_1) (fun a U => a = #[(.int p0_0), (.int p0_1), (.int p0_2), (.int p0_3), (.long q0_4), (.int p0_5)] ∧ Z.Warmed39 U.vm ∧ U.heap = h0) (fun _ _ _ _ _ => True) (fun _ U o U' => ∃ v L, o = .returned v ∧ Q0 Z p0_0 p0_1 p0_2 p0_3 q0_4 p0_5 u_cache cl_cache h0 n0 v U'.heap L ∧ FrameEnd U o U' L 16 128) := by
  refine MetFree.of_bodySF (plainFor_of_name pn_4) hisR ?_
  intro p e s m args below meth c s₁ Bd hml0 hP hK
  obtain ⟨rfl, hZ, hh⟩ := hP
  have hx := Bd.exec
  have hby := Bd.bytes
  have hml : c.maxLocals = 12 := hml0
  have hown : s.vm.findClass "com/example/ratatoskr/ratatoskr/cli/SettingsSubscribersAtPinLaw" = some m.cls := findClass_of_methodNamed Bd.named
  have hnm := (name_of_methodNamed Bd.named Bd.method).1
  have X0 : Stand p l e room_1 s m #[(.int p0_0), (.int p0_1), (.int p0_2), (.int p0_3), (.long q0_4), (.int p0_5)] below meth c s₁ [] 0 0 := Stand.of_body Bd
  have e0 : s₁.heap = h0 := by rw [← hh, Bd.state]; rfl
  have N0 := Fr.nil n0
  have pre0 : ∀ t, Steps p.tables e below (s₁.setTop (mkF m 0 #[.val (.int p0_0), .val (.int p0_1), .val (.int p0_2), .val (.int p0_3), .val (.long q0_4), .second, .val (.int p0_5), .unset, .unset, .unset, .unset, .unset] [])) t → Steps p.tables e below (s₁.setTop (entryFrame m #[(.int p0_0), (.int p0_1), (.int p0_2), (.int p0_3), (.long q0_4), (.int p0_5)] maxLocals)) t := fun t k => castTop (ef_0 m p0_0 p0_1 p0_2 p0_3 q0_4 p0_5) k
  obtain ⟨_, _, ⟨T1, L1, k1, n1⟩, -, X1, ⟨Lc1, hQ1, l1, y1, z1⟩, st1⟩ := Jvm.LawKit.callS X0 hx (y := (⟨"java/lang/Math", "max", "(II)I"⟩ : MethodName)) hown (mvT hZ (hw _ (List.mem_of_getElem? (i := 1) rfl))) (mvT hZ (hw _ (List.mem_of_getElem? (i := 2) rfl))) (mvT hZ (hw _ (List.mem_of_getElem? (i := 3) rfl))) (mvT hZ (hw _ (List.mem_of_getElem? (i := 4) rfl))) (by decide) (backOf (W := 0) (rm1 l Z a0 hw [] (2 : Int32) (p0_0 &&& (2147483647 : Int32)) h0 n0 Z0 ) hZ (hw _ (List.mem_of_getElem? (i := 4) rfl)) (hw _ (List.mem_of_getElem? (i := 3) rfl)) (by decide) (by decide)) (g := (mkF m 5 #[.val (.int p0_0), .val (.int p0_1), .val (.int p0_2), .val (.int p0_3), .val (.long q0_4), .second, .val (.int p0_5), .unset, .unset, .unset, .unset, .unset] [(.int (p0_0 &&& (2147483647 : Int32))), (.int (2 : Int32))])) rfl (by rw [hml]; rfl) (argsL := [(.int (2 : Int32)), (.int (p0_0 &&& (2147483647 : Int32)))]) (rest := []) (lenOf pd_2 rfl) rfl (by show 2 * 0 + _ ≤ _; exact Nat.le_of_eq rfl) (hb hby at_5) (fun _ _ => ⟨rfl, e0, (by decide : 0 + 0 ≤ _), (by decide : 0 + 0 ≤ _)⟩)
  dsimp only [Pt.U, Pt.locs, Pt.cells, Pt.slots] at X1 l1 y1 z1 st1 hQ1
  subst l1 y1 z1
  obtain ⟨rfl, N1q, eh1⟩ := hQ1
  have N1 := Fr.app N0 N1q
  have k2 : ∀ t, Steps p.tables e below (T1.setTop (mkF m 8 #[.val (.int p0_0), .val (.int p0_1), .val (.int p0_2), .val (.int p0_3), .val (.long q0_4), .second, .val (.int p0_5), .unset, .unset, .unset, .unset, .unset] [(.int (own_max (2 : Int32) (p0_0 &&& (2147483647 : Int32))))])) t → Steps p.tables e below (s₁.setTop (entryFrame m #[(.int p0_0), (.int p0_1), (.int p0_2), (.int p0_3), (.long q0_4), (.int p0_5)] maxLocals)) t := by
    intro t k
    refine pre0 t ?_
    show Steps p.tables e below (s₁.setTop (mkF m 0 #[.val (.int p0_0), .val (.int p0_1), .val (.int p0_2), .val (.int p0_3), .val (.long q0_4), .second, .val (.int p0_5), .unset, .unset, .unset, .unset, .unset] [])) _
    refine XS.iconst X0.here hx rfl (hb hby at_0) ?_
    show Steps p.tables e below (s₁.setTop (mkF m 1 #[.val (.int p0_0), .val (.int p0_1), .val (.int p0_2), .val (.int p0_3), .val (.long q0_4), .second, .val (.int p0_5), .unset, .unset, .unset, .unset, .unset] [(.int (2 : Int32))])) _
    refine XS.iloadN X0.here hx rfl (hb hby at_1) rfl ?_
    show Steps p.tables e below (s₁.setTop (mkF m 2 #[.val (.int p0_0), .val (.int p0_1), .val (.int p0_2), .val (.int p0_3), .val (.long q0_4), .second, .val (.int p0_5), .unset, .unset, .unset, .unset, .unset] [(.int p0_0), (.int (2 : Int32))])) _
    refine X0.ldcInt hx hown (mvT hZ (hw _ (List.mem_of_getElem? (i := 0) rfl))) (g := (mkF m 2 #[.val (.int p0_0), .val (.int p0_1), .val (.int p0_2), .val (.int p0_3), .val (.long q0_4), .second, .val (.int p0_5), .unset, .unset, .unset, .unset, .unset] [(.int p0_0), (.int (2 : Int32))])) rfl (hb hby at_2) _ ?_
    show Steps p.tables e below (s₁.setTop (mkF m 4 #[.val (.int p0_0), .val (.int p0_1), .val (.int p0_2), .val (.int p0_3), .val (.long q0_4), .second, .val (.int p0_5), .unset, .unset, .unset, .unset, .unset] [(.int (2147483647 : Int32)), (.int p0_0), (.int (2 : Int32))])) _
    refine XS.iand X0.here hx rfl (hb hby at_4) rfl ?_
    show Steps p.tables e below (s₁.setTop (mkF m 5 #[.val (.int p0_0), .val (.int p0_1), .val (.int p0_2), .val (.int p0_3), .val (.long q0_4), .second, .val (.int p0_5), .unset, .unset, .unset, .unset, .unset] [(.int (p0_0 &&& (2147483647 : Int32))), (.int (2 : Int32))])) _
    refine st1 _ ?_
    exact k
  obtain ⟨zP, hzP⟩ : ∃ z, z = (own_max (2 : Int32) (p0_0 &&& (2147483647 : Int32))) := ⟨_, rfl⟩
  rw [← hzP] at k2
  have hP : 2 ≤ zP.toInt := by rw [hzP]; exact own_P _
  have k3 : ∀ t, Steps p.tables e below (T1.setTop (mkF m 17 #[.val (.int p0_0), .val (.int p0_1), .val (.int p0_2), .val (.int p0_3), .val (.long q0_4), .second, .val (.int p0_5), .val (.int zP), .unset, .unset, .unset, .unset] [(.int ((p0_1 &&& (2147483647 : Int32)) % zP))])) t → Steps p.tables e below (s₁.setTop (entryFrame m #[(.int p0_0), (.int p0_1), (.int p0_2), (.int p0_3), (.long q0_4), (.int p0_5)] maxLocals)) t := by
    intro t k
    refine k2 t ?_
    show Steps p.tables e below (T1.setTop (mkF m 8 #[.val (.int p0_0), .val (.int p0_1), .val (.int p0_2), .val (.int p0_3), .val (.long q0_4), .second, .val (.int p0_5), .unset, .unset, .unset, .unset, .unset] [(.int zP)])) _
    refine XS.istore X1.here hx rfl (hb hby at_8) rfl (l' := #[.val (.int p0_0), .val (.int p0_1), .val (.int p0_2), .val (.int p0_3), .val (.long q0_4), .second, .val (.int p0_5), .val (.int zP), .unset, .unset, .unset, .unset]) rfl ?_
    show Steps p.tables e below (T1.setTop (mkF m 10 #[.val (.int p0_0), .val (.int p0_1), .val (.int p0_2), .val (.int p0_3), .val (.long q0_4), .second, .val (.int p0_5), .val (.int zP), .unset, .unset, .unset, .unset] [])) _
    refine XS.iloadN X1.here hx rfl (hb hby at_10) rfl ?_
    show Steps p.tables e below (T1.setTop (mkF m 11 #[.val (.int p0_0), .val (.int p0_1), .val (.int p0_2), .val (.int p0_3), .val (.long q0_4), .second, .val (.int p0_5), .val (.int zP), .unset, .unset, .unset, .unset] [(.int p0_1)])) _
    refine X1.ldcInt hx hown (mvT hZ (hw _ (List.mem_of_getElem? (i := 0) rfl))) (g := (mkF m 11 #[.val (.int p0_0), .val (.int p0_1), .val (.int p0_2), .val (.int p0_3), .val (.long q0_4), .second, .val (.int p0_5), .val (.int zP), .unset, .unset, .unset, .unset] [(.int p0_1)])) rfl (hb hby at_11) _ ?_
    show Steps p.tables e below (T1.setTop (mkF m 13 #[.val (.int p0_0), .val (.int p0_1), .val (.int p0_2), .val (.int p0_3), .val (.long q0_4), .second, .val (.int p0_5), .val (.int zP), .unset, .unset, .unset, .unset] [(.int (2147483647 : Int32)), (.int p0_1)])) _
    refine XS.iand X1.here hx rfl (hb hby at_13) rfl ?_
    show Steps p.tables e below (T1.setTop (mkF m 14 #[.val (.int p0_0), .val (.int p0_1), .val (.int p0_2), .val (.int p0_3), .val (.long q0_4), .second, .val (.int p0_5), .val (.int zP), .unset, .unset, .unset, .unset] [(.int (p0_1 &&& (2147483647 : Int32)))])) _
    refine XS.iload X1.here hx rfl (hb hby at_14) rfl ?_
    show Steps p.tables e below (T1.setTop (mkF m 16 #[.val (.int p0_0), .val (.int p0_1), .val (.int p0_2), .val (.int p0_3), .val (.long q0_4), .second, .val (.int p0_5), .val (.int zP), .unset, .unset, .unset, .unset] [(.int zP), (.int (p0_1 &&& (2147483647 : Int32)))])) _
    refine iremM X1 hx rfl (hb hby at_16) rfl (own_nz0 _ hP) ?_
    exact k
  obtain ⟨zI, hzI⟩ : ∃ z, z = ((p0_1 &&& (2147483647 : Int32)) % zP) := ⟨_, rfl⟩
  rw [← hzI] at k3
  have hI : 0 ≤ zI.toInt ∧ zI.toInt < zP.toInt := by rw [hzI]; exact own_rem _ _ hP
  have k4 : ∀ t, Steps p.tables e below (T1.setTop (mkF m 23 #[.val (.int p0_0), .val (.int p0_1), .val (.int p0_2), .val (.int p0_3), .val (.long q0_4), .second, .val (.int p0_5), .val (.int zP), .val (.int zI), .unset, .unset, .unset] [(.int (p0_2 &&& (2147483647 : Int32)))])) t → Steps p.tables e below (s₁.setTop (entryFrame m #[(.int p0_0), (.int p0_1), (.int p0_2), (.int p0_3), (.long q0_4), (.int p0_5)] maxLocals)) t := by
    intro t k
    refine k3 t ?_
    show Steps p.tables e below (T1.setTop (mkF m 17 #[.val (.int p0_0), .val (.int p0_1), .val (.int p0_2), .val (.int p0_3), .val (.long q0_4), .second, .val (.int p0_5), .val (.int zP), .unset, .unset, .unset, .unset] [(.int zI)])) _
    refine XS.istore X1.here hx rfl (hb hby at_17) rfl (l' := #[.val (.int p0_0), .val (.int p0_1), .val (.int p0_2), .val (.int p0_3), .val (.long q0_4), .second, .val (.int p0_5), .val (.int zP), .val (.int zI), .unset, .unset, .unset]) rfl ?_
    show Steps p.tables e below (T1.setTop (mkF m 19 #[.val (.int p0_0), .val (.int p0_1), .val (.int p0_2), .val (.int p0_3), .val (.long q0_4), .second, .val (.int p0_5), .val (.int zP), .val (.int zI), .unset, .unset, .unset] [])) _
    refine XS.iloadN X1.here hx rfl (hb hby at_19) rfl ?_
    show Steps p.tables e below (T1.setTop (mkF m 20 #[.val (.int p0_0), .val (.int p0_1), .val (.int p0_2), .val (.int p0_3), .val (.long q0_4), .second, .val (.int p0_5), .val (.int zP), .val (.int zI), .unset, .unset, .unset] [(.int p0_2)])) _
    refine X1.ldcInt hx hown (mvT hZ (hw _ (List.mem_of_getElem? (i := 0) rfl))) (g := (mkF m 20 #[.val (.int p0_0), .val (.int p0_1), .val (.int p0_2), .val (.int p0_3), .val (.long q0_4), .second, .val (.int p0_5), .val (.int zP), .val (.int zI), .unset, .unset, .unset] [(.int p0_2)])) rfl (hb hby at_20) _ ?_
    show Steps p.tables e below (T1.setTop (mkF m 22 #[.val (.int p0_0), .val (.int p0_1), .val (.int p0_2), .val (.int p0_3), .val (.long q0_4), .second, .val (.int p0_5), .val (.int zP), .val (.int zI), .unset, .unset, .unset] [(.int (2147483647 : Int32)), (.int p0_2)])) _
    refine XS.iand X1.here hx rfl (hb hby at_22) rfl ?_
    exact k
  obtain ⟨zS, hzS⟩ : ∃ z, z = (p0_2 &&& (2147483647 : Int32)) := ⟨_, rfl⟩
  rw [← hzS] at k4
  have hS : 0 ≤ zS.toInt := by rw [hzS]; exact (own_pos _).1
  obtain ⟨b5, g5⟩ : ∃ z, z = h0.size := ⟨_, rfl⟩
  obtain ⟨T5, h5, X5, e5, E5, A5, D5, -, st5⟩ := newO X1 hx hZ hown (hw _ (List.mem_of_getElem? (i := 5) rfl)) (hw _ (List.mem_of_getElem? (i := 6) rfl)) (hw _ (List.mem_of_getElem? (i := 7) rfl)) eh1 (g := (mkF m 25 #[.val (.int p0_0), .val (.int p0_1), .val (.int p0_2), .val (.int p0_3), .val (.long q0_4), .second, .val (.int p0_5), .val (.int zP), .val (.int zI), .val (.int zS), .unset, .unset] [])) rfl (hb hby at_25) (by decide) (by decide)
  rw [← g5] at A5 D5 st5
  have ne6 : u_cache ≠ b5 := Nat.ne_of_lt (Nat.lt_of_lt_of_le Ac.lt (Nat.le_of_eq g5.symm))
  have gg5 : n0 ≤ b5 := Nat.le_trans Z0 (Nat.le_of_eq g5.symm)
  have Zs5 : n0 ≤ h5.size := Nat.le_trans Z0 E5.1
  have F7 : Sta Z h5 "java/lang/Long$LongCache" "cache" "[Ljava/lang/Long;" (.ref u_cache) := Sc.ext E5
  have F8 : Arr Z h5 u_cache cl_cache (.object "java/lang/Long") := Ac.ext E5
  have F9 : Fld Z h5 b5 "com/example/ratatoskr/ratatoskr/cli/Bench$Settings" "processes" "I" (.int (0 : Int32)) := D5 (Or.inr (hw _ (List.mem_of_getElem? (i := 40) rfl))) (ty := .int) (by decide)
  have F10 : Fld Z h5 b5 "com/example/ratatoskr/ratatoskr/cli/Bench$Settings" "subscribers" "I" (.int (0 : Int32)) := D5 (Or.inr (hw _ (List.mem_of_getElem? (i := 42) rfl))) (ty := .int) (by decide)
  have F11 : Fld Z h5 b5 "com/example/ratatoskr/ratatoskr/cli/Bench$Settings" "count" "I" (.int (0 : Int32)) := D5 (Or.inr (hw _ (List.mem_of_getElem? (i := 44) rfl))) (ty := .int) (by decide)
  have F12 : Fld Z h5 b5 "com/example/ratatoskr/ratatoskr/cli/Bench$Settings" "size" "I" (.int (0 : Int32)) := D5 (Or.inr (hw _ (List.mem_of_getElem? (i := 46) rfl))) (ty := .int) (by decide)
  have F13 : Fld Z h5 b5 "com/example/ratatoskr/ratatoskr/cli/Bench$Settings" "rate" "Ljava/lang/Long;" .null := D5 (Or.inr (hw _ (List.mem_of_getElem? (i := 48) rfl))) (ty := (.object "java/lang/Long")) (by decide)
  have F14 : Fld Z h5 b5 "com/example/ratatoskr/ratatoskr/cli/Bench$Settings" "basePort" "I" (.int (0 : Int32)) := D5 (Or.inr (hw _ (List.mem_of_getElem? (i := 50) rfl))) (ty := .int) (by decide)
  obtain ⟨_, _, ⟨T15, L15, k15, n15⟩, -, X15, ⟨Lc15, hQ15, l15, y15, z15⟩, st15⟩ := Jvm.LawKit.callS X5 hx (y := (⟨"java/lang/Long", "valueOf", "(J)Ljava/lang/Long;"⟩ : MethodName)) hown (mvT hZ (hw _ (List.mem_of_getElem? (i := 8) rfl))) (mvT hZ (hw _ (List.mem_of_getElem? (i := 9) rfl))) (mvT hZ (hw _ (List.mem_of_getElem? (i := 10) rfl))) (mvT hZ (hw _ (List.mem_of_getElem? (i := 11) rfl))) (by decide) (backOf (W := 6) (rm5 l Z a0 hw [] q0_4 u_cache cl_cache h5 n0 Zs5 F7 F8 hsz hall) hZ (hw _ (List.mem_of_getElem? (i := 11) rfl)) (hw _ (List.mem_of_getElem? (i := 10) rfl)) (by decide) (by decide)) (g := (mkF m 37 #[.val (.int p0_0), .val (.int p0_1), .val (.int p0_2), .val (.int p0_3), .val (.long q0_4), .second, .val (.int p0_5), .val (.int zP), .val (.int zI), .val (.int zS), .unset, .unset] [(.long q0_4), (.int (0 : Int32)), (.int p0_3), (.int zS), (.int zP), (.ref b5), (.ref b5)])) rfl (by rw [hml]; rfl) (argsL := [(.long q0_4)]) (rest := [(.int (0 : Int32)), (.int p0_3), (.int zS), (.int zP), (.ref b5), (.ref b5)]) (lenOf pd_3 rfl) rfl (by show 2 * 0 + _ ≤ _; exact Nat.le_of_eq rfl) (hb hby at_37) (fun _ _ => ⟨rfl, e5, (by decide : 1 + 1 ≤ _), (by decide : 6 + 1 ≤ _)⟩)
  dsimp only [Pt.U, Pt.locs, Pt.cells, Pt.slots] at X15 l15 y15 z15 st15 hQ15
  subst l15 y15 z15
  obtain ⟨b5_15, rfl, N15q, Kc15⟩ := hQ15
  have Zs15 : n0 ≤ T15.heap.size := Nat.le_trans Zs5 Kc15.1
  have F16 : Sta Z T15.heap "java/lang/Long$LongCache" "cache" "[Ljava/lang/Long;" (.ref u_cache) := own_stakeep F7 Kc15 all0
  have F17 : Arr Z T15.heap u_cache cl_cache (.object "java/lang/Long") := ⟨Kc15.2.1 _ _ F8.1 nin0, F8.2⟩
  have F18 : Exa Z T15.heap b5 "com/example/ratatoskr/ratatoskr/cli/Bench$Settings" := A5.keep Kc15
  have F19 : Fld Z T15.heap b5 "com/example/ratatoskr/ratatoskr/cli/Bench$Settings" "processes" "I" (.int (0 : Int32)) := F9.keep Kc15 nin0
  have F20 : Fld Z T15.heap b5 "com/example/ratatoskr/ratatoskr/cli/Bench$Settings" "subscribers" "I" (.int (0 : Int32)) := F10.keep Kc15 nin0
  have F21 : Fld Z T15.heap b5 "com/example/ratatoskr/ratatoskr/cli/Bench$Settings" "count" "I" (.int (0 : Int32)) := F11.keep Kc15 nin0
  have F22 : Fld Z T15.heap b5 "com/example/ratatoskr/ratatoskr/cli/Bench$Settings" "size" "I" (.int (0 : Int32)) := F12.keep Kc15 nin0
  have F23 : Fld Z T15.heap b5 "com/example/ratatoskr/ratatoskr/cli/Bench$Settings" "rate" "Ljava/lang/Long;" .null := F13.keep Kc15 nin0
  have F24 : Fld Z T15.heap b5 "com/example/ratatoskr/ratatoskr/cli/Bench$Settings" "basePort" "I" (.int (0 : Int32)) := F14.keep Kc15 nin0
  have N15 := Fr.app N1 N15q
  obtain ⟨_, _, ⟨T25, L25, k25, n25⟩, -, X25, ⟨Lc25, hQ25, l25, y25, z25⟩, st25⟩ := X15.specialBack hx (y := (⟨"com/example/ratatoskr/ratatoskr/cli/Bench$Settings", "<init>", "(IIIILjava/lang/Long;I)V"⟩ : MethodName)) rfl hown (mvT hZ (hw _ (List.mem_of_getElem? (i := 30) rfl))) (mvT hZ (hw _ (List.mem_of_getElem? (i := 31) rfl))) (mvT hZ (hw _ (List.mem_of_getElem? (i := 32) rfl))) (by decide) (backOf (W := 1) (rm6 l Z a0 hw [] b5 zP zS p0_3 (0 : Int32) b5_15 p0_5 T15.heap n0 Zs15 F18 F19 F20 F21 F22 F23 F24 gg5) hZ (hw _ (List.mem_of_getElem? (i := 32) rfl)) (hw _ (List.mem_of_getElem? (i := 7) rfl)) (by decide) (by decide)) (g := (mkF m 42 #[.val (.int p0_0), .val (.int p0_1), .val (.int p0_2), .val (.int p0_3), .val (.long q0_4), .second, .val (.int p0_5), .val (.int zP), .val (.int zI), .val (.int zS), .unset, .unset] [(.int p0_5), (.ref b5_15), (.int (0 : Int32)), (.int p0_3), (.int zS), (.int zP), (.ref b5), (.ref b5)])) rfl (by rw [hml]; rfl) (Steps.refl _) (a := b5) (argsL := [(.int zP), (.int zS), (.int p0_3), (.int (0 : Int32)), (.ref b5_15), (.int p0_5)]) (rest := [(.ref b5)]) (lenOf pd_4 rfl) rfl (by show 2 * 0 + _ ≤ _; exact Nat.le_of_eq rfl) (hb hby at_42) (fun _ _ => ⟨rfl, rfl, (by decide : 2 + 0 ≤ _), (by decide : 7 + 0 ≤ _)⟩)
  dsimp only [Pt.U, Pt.locs, Pt.cells, Pt.slots] at X25 l25 y25 z25 st25 hQ25
  subst l25 y25 z25
  obtain ⟨rfl, N25q, Kc25, G25_0, G25_1, G25_2⟩ := hQ25
  have Zs25 : n0 ≤ T25.heap.size := Nat.le_trans Zs15 Kc25.1
  have F26 : Sta Z T25.heap "java/lang/Long$LongCache" "cache" "[Ljava/lang/Long;" (.ref u_cache) := own_stakeep F16 Kc25 (allS (own_nsE F18) all0)
  have F27 : Arr Z T25.heap u_cache cl_cache (.object "java/lang/Long") := ⟨Kc25.2.1 _ _ F17.1 (ninS ne6 nin0), F17.2⟩
  have N25 := Fr.app N15 N25q
  obtain ⟨cq32, kq32, q32a, q32b, q32c⟩ := isOf hZ rfl G25_0
  obtain ⟨_, _, ⟨T32, L32, k32, n32⟩, -, X32, ⟨Lc32, hQ32, l32, y32, z32⟩, st32⟩ := X25.virtualBack hx (y := (⟨"com/example/ratatoskr/ratatoskr/cli/Bench$Settings", "subscribersAt", "(I)I"⟩ : MethodName)) (z := (⟨"com/example/ratatoskr/ratatoskr/cli/Bench$Settings", "subscribersAt", "(I)I"⟩ : MethodName)) hown (mvT hZ (hw _ (List.mem_of_getElem? (i := 51) rfl))) (mvT hZ (hw _ (List.mem_of_getElem? (i := 52) rfl))) (notFace_of_selects (args := #[]) (mvT hZ (hw _ (List.mem_of_getElem? (i := 54) rfl)))) (mvT hZ (hw _ (List.mem_of_getElem? (i := 54) rfl))) (mvT hZ (hw _ (List.mem_of_getElem? (i := 53) rfl))) (by decide) (backOf (W := 0) (rm7 l Z a0 hw [] b5 zI zP zS T25.heap n0 Zs25 G25_1 G25_2 (own_nz1 _ hP)) hZ (hw _ (List.mem_of_getElem? (i := 55) rfl)) (hw _ (List.mem_of_getElem? (i := 7) rfl)) (by decide) (by decide)) q32a q32c (g := (mkF m 51 #[.val (.int p0_0), .val (.int p0_1), .val (.int p0_2), .val (.int p0_3), .val (.long q0_4), .second, .val (.int p0_5), .val (.int zP), .val (.int zI), .val (.int zS), .val (.ref b5), .unset] [(.int zI), (.ref b5)])) rfl (by rw [hml]; rfl) (Steps.refl _) (argsL := [(.int zI)]) (rest := []) (lenOf pd_5 rfl) rfl (by show 2 * 0 + _ ≤ _; exact Nat.le_of_eq rfl) (hb hby at_51) (fun _ _ => ⟨rfl, rfl, (by decide : 2 + 0 ≤ _), (by decide : 7 + 0 ≤ _)⟩)
  dsimp only [Pt.U, Pt.locs, Pt.cells, Pt.slots] at X32 l32 y32 z32 st32 hQ32
  subst l32 y32 z32
  obtain ⟨rfl, N32q, eh32⟩ := hQ32
  have N32 := Fr.app N25 N32q
  obtain ⟨_, _, ⟨T33, L33, k33, n33⟩, -, X33, ⟨Lc33, hQ33, l33, y33, z33⟩, st33⟩ := Jvm.LawKit.callS X32 hx (y := (⟨"com/example/ratatoskr/ratatoskr/cli/SettingsSubscribersAtPinLaw", "expected", "(III)J"⟩ : MethodName)) hown (mvT hZ (hw _ (List.mem_of_getElem? (i := 56) rfl))) (mvT hZ (hw _ (List.mem_of_getElem? (i := 57) rfl))) (mvT hZ (hw _ (List.mem_of_getElem? (i := 58) rfl))) (mvT hZ (hw _ (List.mem_of_getElem? (i := 59) rfl))) (by decide) (backOf (W := 2) (rm8 l Z a0 hw [] zP zS zI T25.heap n0 Zs25 (own_nz2 _ hP)) hZ (hw _ (List.mem_of_getElem? (i := 59) rfl)) (hw _ (List.mem_of_getElem? (i := 58) rfl)) (by decide) (by decide)) (g := (mkF m 65 #[.val (.int p0_0), .val (.int p0_1), .val (.int p0_2), .val (.int p0_3), .val (.long q0_4), .second, .val (.int p0_5), .val (.int zP), .val (.int zI), .val (.int zS), .val (.ref b5), .val (.int (own_sub zI zP zS))] [(.int zI), (.int zS), (.int zP), (.long (own_sub zI zP zS).toInt64)])) rfl (by rw [hml]; rfl) (argsL := [(.int zP), (.int zS), (.int zI)]) (rest := [(.long (own_sub zI zP zS).toInt64)]) (lenOf pd_6 rfl) rfl (by show 2 * 0 + _ ≤ _; exact Nat.le_of_eq rfl) (hb hby at_65) (fun _ _ => ⟨rfl, eh32, (by decide : 2 + 0 ≤ _), (by decide : 7 + 0 ≤ _)⟩)
  dsimp only [Pt.U, Pt.locs, Pt.cells, Pt.slots] at X33 l33 y33 z33 st33 hQ33
  subst l33 y33 z33
  obtain ⟨rfl, N33q, eh33⟩ := hQ33
  have N33 := Fr.app N32 N33q
  have k34 : ∀ t, Steps p.tables e below (T33.setTop (mkF m 77 #[.val (.int p0_0), .val (.int p0_1), .val (.int p0_2), .val (.int p0_3), .val (.long q0_4), .second, .val (.int p0_5), .val (.int zP), .val (.int zI), .val (.int zS), .val (.ref b5), .val (.int (own_sub zI zP zS))] [(.int (1 : Int32))])) t → Steps p.tables e below (s₁.setTop (entryFrame m #[(.int p0_0), (.int p0_1), (.int p0_2), (.int p0_3), (.long q0_4), (.int p0_5)] maxLocals)) t := by
    intro t k
    refine k4 t ?_
    show Steps p.tables e below (T1.setTop (mkF m 23 #[.val (.int p0_0), .val (.int p0_1), .val (.int p0_2), .val (.int p0_3), .val (.long q0_4), .second, .val (.int p0_5), .val (.int zP), .val (.int zI), .unset, .unset, .unset] [(.int zS)])) _
    refine XS.istore X1.here hx rfl (hb hby at_23) rfl (l' := #[.val (.int p0_0), .val (.int p0_1), .val (.int p0_2), .val (.int p0_3), .val (.long q0_4), .second, .val (.int p0_5), .val (.int zP), .val (.int zI), .val (.int zS), .unset, .unset]) rfl ?_
    show Steps p.tables e below (T1.setTop (mkF m 25 #[.val (.int p0_0), .val (.int p0_1), .val (.int p0_2), .val (.int p0_3), .val (.long q0_4), .second, .val (.int p0_5), .val (.int zP), .val (.int zI), .val (.int zS), .unset, .unset] [])) _
    refine st5 _ ?_
    show Steps p.tables e below (T5.setTop (mkF m 28 #[.val (.int p0_0), .val (.int p0_1), .val (.int p0_2), .val (.int p0_3), .val (.long q0_4), .second, .val (.int p0_5), .val (.int zP), .val (.int zI), .val (.int zS), .unset, .unset] [(.ref b5)])) _
    refine XS.dup X5.here hx rfl (hb hby at_28) rfl rfl ?_
    show Steps p.tables e below (T5.setTop (mkF m 29 #[.val (.int p0_0), .val (.int p0_1), .val (.int p0_2), .val (.int p0_3), .val (.long q0_4), .second, .val (.int p0_5), .val (.int zP), .val (.int zI), .val (.int zS), .unset, .unset] [(.ref b5), (.ref b5)])) _
    refine XS.iload X5.here hx rfl (hb hby at_29) rfl ?_
    show Steps p.tables e below (T5.setTop (mkF m 31 #[.val (.int p0_0), .val (.int p0_1), .val (.int p0_2), .val (.int p0_3), .val (.long q0_4), .second, .val (.int p0_5), .val (.int zP), .val (.int zI), .val (.int zS), .unset, .unset] [(.int zP), (.ref b5), (.ref b5)])) _
    refine XS.iload X5.here hx rfl (hb hby at_31) rfl ?_
    show Steps p.tables e below (T5.setTop (mkF m 33 #[.val (.int p0_0), .val (.int p0_1), .val (.int p0_2), .val (.int p0_3), .val (.long q0_4), .second, .val (.int p0_5), .val (.int zP), .val (.int zI), .val (.int zS), .unset, .unset] [(.int zS), (.int zP), (.ref b5), (.ref b5)])) _
    refine XS.iloadN X5.here hx rfl (hb hby at_33) rfl ?_
    show Steps p.tables e below (T5.setTop (mkF m 34 #[.val (.int p0_0), .val (.int p0_1), .val (.int p0_2), .val (.int p0_3), .val (.long q0_4), .second, .val (.int p0_5), .val (.int zP), .val (.int zI), .val (.int zS), .unset, .unset] [(.int p0_3), (.int zS), (.int zP), (.ref b5), (.ref b5)])) _
    refine XS.iconst X5.here hx rfl (hb hby at_34) ?_
    show Steps p.tables e below (T5.setTop (mkF m 35 #[.val (.int p0_0), .val (.int p0_1), .val (.int p0_2), .val (.int p0_3), .val (.long q0_4), .second, .val (.int p0_5), .val (.int zP), .val (.int zI), .val (.int zS), .unset, .unset] [(.int (0 : Int32)), (.int p0_3), (.int zS), (.int zP), (.ref b5), (.ref b5)])) _
    refine XS.lload X5.here hx rfl (hb hby at_35) rfl ?_
    show Steps p.tables e below (T5.setTop (mkF m 37 #[.val (.int p0_0), .val (.int p0_1), .val (.int p0_2), .val (.int p0_3), .val (.long q0_4), .second, .val (.int p0_5), .val (.int zP), .val (.int zI), .val (.int zS), .unset, .unset] [(.long q0_4), (.int (0 : Int32)), (.int p0_3), (.int zS), (.int zP), (.ref b5), (.ref b5)])) _
    refine st15 _ ?_
    show Steps p.tables e below (T15.setTop (mkF m 40 #[.val (.int p0_0), .val (.int p0_1), .val (.int p0_2), .val (.int p0_3), .val (.long q0_4), .second, .val (.int p0_5), .val (.int zP), .val (.int zI), .val (.int zS), .unset, .unset] [(.ref b5_15), (.int (0 : Int32)), (.int p0_3), (.int zS), (.int zP), (.ref b5), (.ref b5)])) _
    refine XS.iload X15.here hx rfl (hb hby at_40) rfl ?_
    show Steps p.tables e below (T15.setTop (mkF m 42 #[.val (.int p0_0), .val (.int p0_1), .val (.int p0_2), .val (.int p0_3), .val (.long q0_4), .second, .val (.int p0_5), .val (.int zP), .val (.int zI), .val (.int zS), .unset, .unset] [(.int p0_5), (.ref b5_15), (.int (0 : Int32)), (.int p0_3), (.int zS), (.int zP), (.ref b5), (.ref b5)])) _
    refine st25.trans ?_
    show Steps p.tables e below (T25.setTop (mkF m 45 #[.val (.int p0_0), .val (.int p0_1), .val (.int p0_2), .val (.int p0_3), .val (.long q0_4), .second, .val (.int p0_5), .val (.int zP), .val (.int zI), .val (.int zS), .unset, .unset] [(.ref b5)])) _
    refine XS.astore X25.here hx rfl (hb hby at_45) rfl rfl (l' := #[.val (.int p0_0), .val (.int p0_1), .val (.int p0_2), .val (.int p0_3), .val (.long q0_4), .second, .val (.int p0_5), .val (.int zP), .val (.int zI), .val (.int zS), .val (.ref b5), .unset]) rfl ?_
    show Steps p.tables e below (T25.setTop (mkF m 47 #[.val (.int p0_0), .val (.int p0_1), .val (.int p0_2), .val (.int p0_3), .val (.long q0_4), .second, .val (.int p0_5), .val (.int zP), .val (.int zI), .val (.int zS), .val (.ref b5), .unset] [])) _
    refine XS.aload X25.here hx rfl (hb hby at_47) rfl rfl ?_
    show Steps p.tables e below (T25.setTop (mkF m 49 #[.val (.int p0_0), .val (.int p0_1), .val (.int p0_2), .val (.int p0_3), .val (.long q0_4), .second, .val (.int p0_5), .val (.int zP), .val (.int zI), .val (.int zS), .val (.ref b5), .unset] [(.ref b5)])) _
    refine XS.iload X25.here hx rfl (hb hby at_49) rfl ?_
    show Steps p.tables e below (T25.setTop (mkF m 51 #[.val (.int p0_0), .val (.int p0_1), .val (.int p0_2), .val (.int p0_3), .val (.long q0_4), .second, .val (.int p0_5), .val (.int zP), .val (.int zI), .val (.int zS), .val (.ref b5), .unset] [(.int zI), (.ref b5)])) _
    refine st32.trans ?_
    show Steps p.tables e below (T32.setTop (mkF m 54 #[.val (.int p0_0), .val (.int p0_1), .val (.int p0_2), .val (.int p0_3), .val (.long q0_4), .second, .val (.int p0_5), .val (.int zP), .val (.int zI), .val (.int zS), .val (.ref b5), .unset] [(.int (own_sub zI zP zS))])) _
    refine XS.istore X32.here hx rfl (hb hby at_54) rfl (l' := #[.val (.int p0_0), .val (.int p0_1), .val (.int p0_2), .val (.int p0_3), .val (.long q0_4), .second, .val (.int p0_5), .val (.int zP), .val (.int zI), .val (.int zS), .val (.ref b5), .val (.int (own_sub zI zP zS))]) rfl ?_
    show Steps p.tables e below (T32.setTop (mkF m 56 #[.val (.int p0_0), .val (.int p0_1), .val (.int p0_2), .val (.int p0_3), .val (.long q0_4), .second, .val (.int p0_5), .val (.int zP), .val (.int zI), .val (.int zS), .val (.ref b5), .val (.int (own_sub zI zP zS))] [])) _
    refine XS.iload X32.here hx rfl (hb hby at_56) rfl ?_
    show Steps p.tables e below (T32.setTop (mkF m 58 #[.val (.int p0_0), .val (.int p0_1), .val (.int p0_2), .val (.int p0_3), .val (.long q0_4), .second, .val (.int p0_5), .val (.int zP), .val (.int zI), .val (.int zS), .val (.ref b5), .val (.int (own_sub zI zP zS))] [(.int (own_sub zI zP zS))])) _
    refine XS.i2l X32.here hx rfl (hb hby at_58) rfl ?_
    show Steps p.tables e below (T32.setTop (mkF m 59 #[.val (.int p0_0), .val (.int p0_1), .val (.int p0_2), .val (.int p0_3), .val (.long q0_4), .second, .val (.int p0_5), .val (.int zP), .val (.int zI), .val (.int zS), .val (.ref b5), .val (.int (own_sub zI zP zS))] [(.long (own_sub zI zP zS).toInt64)])) _
    refine XS.iload X32.here hx rfl (hb hby at_59) rfl ?_
    show Steps p.tables e below (T32.setTop (mkF m 61 #[.val (.int p0_0), .val (.int p0_1), .val (.int p0_2), .val (.int p0_3), .val (.long q0_4), .second, .val (.int p0_5), .val (.int zP), .val (.int zI), .val (.int zS), .val (.ref b5), .val (.int (own_sub zI zP zS))] [(.int zP), (.long (own_sub zI zP zS).toInt64)])) _
    refine XS.iload X32.here hx rfl (hb hby at_61) rfl ?_
    show Steps p.tables e below (T32.setTop (mkF m 63 #[.val (.int p0_0), .val (.int p0_1), .val (.int p0_2), .val (.int p0_3), .val (.long q0_4), .second, .val (.int p0_5), .val (.int zP), .val (.int zI), .val (.int zS), .val (.ref b5), .val (.int (own_sub zI zP zS))] [(.int zS), (.int zP), (.long (own_sub zI zP zS).toInt64)])) _
    refine XS.iload X32.here hx rfl (hb hby at_63) rfl ?_
    show Steps p.tables e below (T32.setTop (mkF m 65 #[.val (.int p0_0), .val (.int p0_1), .val (.int p0_2), .val (.int p0_3), .val (.long q0_4), .second, .val (.int p0_5), .val (.int zP), .val (.int zI), .val (.int zS), .val (.ref b5), .val (.int (own_sub zI zP zS))] [(.int zI), (.int zS), (.int zP), (.long (own_sub zI zP zS).toInt64)])) _
    refine st33 _ ?_
    show Steps p.tables e below (T33.setTop (mkF m 68 #[.val (.int p0_0), .val (.int p0_1), .val (.int p0_2), .val (.int p0_3), .val (.long q0_4), .second, .val (.int p0_5), .val (.int zP), .val (.int zI), .val (.int zS), .val (.ref b5), .val (.int (own_sub zI zP zS))] [(.long (own_exd zP zS zI)), (.long (own_sub zI zP zS).toInt64)])) _
    refine XS.lcmp X33.here hx rfl (hb hby at_68) rfl ?_
    show Steps p.tables e below (T33.setTop (mkF m 69 #[.val (.int p0_0), .val (.int p0_1), .val (.int p0_2), .val (.int p0_3), .val (.long q0_4), .second, .val (.int p0_5), .val (.int zP), .val (.int zI), .val (.int zS), .val (.ref b5), .val (.int (own_sub zI zP zS))] [(.int (lcmpW (own_sub zI zP zS).toInt64 (own_exd zP zS zI)))])) _
    refine XS.ifNo X33.here hx rfl (hb hby at_69) rfl ((if0 _ _).trans (teq ((lw_eq _ _).mpr (own_law _ _ _ hP hI.1 hI.2 hS))).2) ?_
    show Steps p.tables e below (T33.setTop (mkF m 72 #[.val (.int p0_0), .val (.int p0_1), .val (.int p0_2), .val (.int p0_3), .val (.long q0_4), .second, .val (.int p0_5), .val (.int zP), .val (.int zI), .val (.int zS), .val (.ref b5), .val (.int (own_sub zI zP zS))] [])) _
    refine XS.iconst X33.here hx rfl (hb hby at_72) ?_
    show Steps p.tables e below (T33.setTop (mkF m 73 #[.val (.int p0_0), .val (.int p0_1), .val (.int p0_2), .val (.int p0_3), .val (.long q0_4), .second, .val (.int p0_5), .val (.int zP), .val (.int zI), .val (.int zS), .val (.ref b5), .val (.int (own_sub zI zP zS))] [(.int (1 : Int32))])) _
    refine XS.goto X33.here hx rfl (pc0 := 73) (pc' := 77) rfl (hb hby at_73) (by decide) (by decide) ?_
    exact k
  obtain ⟨fs, hr, hrun, hended, hW, hsame⟩ := X33.leave (v := some (.int (1 : Int32))) (fun h => by rw [Bd.returns] at h; cases h)
  refine ⟨_, _, k34 _ ?_, hrun, hended, _, _, rfl, ?_, ⟨_, rfl⟩, hW, hsame.mono (by decide) (by decide)⟩
  · exact retN X33 hx (t := .boolean) Bd.returns (by simp) (hb hby at_77) hr
  · show Q0 Z p0_0 p0_1 p0_2 p0_3 q0_4 p0_5 u_cache cl_cache h0 n0 _ T33.heap _
    rw [eh33]
    exact ⟨rfl, N33⟩
set_option maxRecDepth 65536 in
set_option maxHeartbeats 40000000 in
theorem comes_1 {Post : Tables → Env → Array Value → State → Outcome → State → Prop} (hpost : ∀ tb e args s v u, (limb_1_1.after args s (.returned v) u = true ∧ limb_1_2.after args s (.returned v) u = true ∧ True) → FrameEnd s (.returned v) u (Jvm.fieldLocs frame_1_writes args s ++ Jvm.arrayLocs frame_1_arrays args s ++ Jvm.staticLocs frame_1_statics s) 16 128 → Post tb e args s (.returned v) u) :
    ArmFor flags0 classFile x code maxLocals ret World_1 tables_1 room_1 Calls_1 rest_1 Pre_1 Post := by
  intro l hfl _ _ p e ha hc hk s m args below hf hA hF happ hP
  obtain ⟨hcalls, hrest, hpre⟩ := hP
  obtain ⟨-, -, -, hnamed, -, -, -, hat⟩ := (Spec.applies_iff hf).mp happ
  obtain ⟨hg, hn⟩ := and_e (Cond.before_iff.mp (show (Jvm.Cond.and given_1 narrow_1).before args s = true from hpre))
  obtain ⟨gv1, gv2⟩ := and_e hg
  obtain ⟨gv3, gv4⟩ := and_e gv2
  obtain ⟨gv5, gv6⟩ := and_e gv4
  obtain ⟨gv7, gv8⟩ := and_e gv6
  obtain ⟨gv9, gv10⟩ := and_e gv8
  obtain ⟨gv11, gv12⟩ := and_e gv10
  obtain ⟨w0, w1, w2, w3, w4, w5, rfl⟩ : ∃ w0 w1 w2 w3 w4 w5 : Value, args = #[w0, w1, w2, w3, w4, w5] := by
    have hs : args.size = 6 := by simpa [Cond.value, given_1] using gv1
    obtain ⟨L⟩ := args
    match L, hs with
    | [w0, w1, w2, w3, w4, w5], _ => exact ⟨w0, w1, w2, w3, w4, w5, rfl⟩
  have hw := fun d (hd : d ∈ tables_1) => atoms_spec (ws := Jvm.Cond.code x code maxLocals ret :: tables_1) hat d (List.mem_cons_of_mem _ hd)
  have hfit : Fit s := fun {y c} hc i hi => by
    obtain ⟨ha, rfl⟩ := Array.getElem?_eq_some_iff.mp hc
    have q := List.all_eq_true.mp ((Array.all_eq_true_iff_forall_mem.mp hF) _ (Array.getElem_mem ha)) i (List.mem_range.mpr hi)
    simpa [Array.getElem?_eq_getElem hi] using q
  obtain ⟨hsets, hown0⟩ := atoms_of _ (rest_1_c_eq ▸ (show rest_1_c.before _ s = true from hrest))
  have hr0 := Cond.before_iff.mp hown0
  obtain ⟨i0, ei0⟩ := is_v gv3
  obtain rfl : w0 = (.int i0) := Option.some.inj ei0
  obtain ⟨i1, ei1⟩ := is_v gv5
  obtain rfl : w1 = (.int i1) := Option.some.inj ei1
  obtain ⟨i2, ei2⟩ := is_v gv7
  obtain rfl : w2 = (.int i2) := Option.some.inj ei2
  obtain ⟨i3, ei3⟩ := is_v gv9
  obtain rfl : w3 = (.int i3) := Option.some.inj ei3
  obtain ⟨i4, ei4⟩ := isL_v gv11
  obtain rfl : w4 = (.long i4) := Option.some.inj ei4
  obtain ⟨i5, ei5⟩ := is_v gv12
  obtain rfl : w5 = (.int i5) := Option.some.inj ei5
  obtain ⟨u_cache, ev_c⟩ := arr_v (Cond.before_iff.mp (hsets _ (List.mem_of_getElem? (i := 2) rfl)))
  obtain ⟨cl_cache, Ac⟩ := Arr.start ev_c (Cond.before_iff.mp (hsets _ (List.mem_of_getElem? (i := 2) rfl)))
  have Sc : Sta s s.heap "java/lang/Long$LongCache" "cache" "[Ljava/lang/Long;" (.ref u_cache) := Sta.start ev_c (Or.inl (hsets _ (List.mem_of_getElem? (i := 1) rfl)))
  have hlen := own_len ev_c (Ac.fin (Vm.Alike.refl _)) (own_evI (Cond.before_iff.mp (hsets _ (List.mem_of_getElem? (i := 4) rfl))))
  have hsz : cl_cache.slots.size = (256 : Int32).toNatClampNeg := by rw [← hlen.2]; simp only [Int32.toNatClampNeg, len_toInt hlen.1]; rfl
  have hall : ∀ j : Int32, ¬ (j < 0 ∨ cl_cache.slots.size ≤ j.toNatClampNeg) → ∃ x : Addr, cl_cache.slots[j.toNatClampNeg]? = some (.ref x) := by
    intro j hj
    have hlt : j.toNatClampNeg < cl_cache.slots.size := Nat.lt_of_not_le fun x => hj (Or.inr x)
    obtain ⟨x, hx⟩ := exa_v (and_e (Cond.all_elim (idx := []) ev_c (Ac.fin (Vm.Alike.refl _)) (Cond.before_iff.mp (hsets _ (List.mem_of_getElem? (i := 5) rfl))) j.toNatClampNeg hlt)).1
    exact ⟨x, (elem_in hx ev_c (idx_at (fun q => hj (Or.inl q))) Ac.1).2⟩
  obtain ⟨n, o, h1, h2, h3, _, L, rfl, ⟨rfl, N⟩, hq⟩ := rm0 l s _ hw tables_1 i0 i1 i2 i3 i4 i5 u_cache cl_cache s.heap s.heap.size (Nat.le_refl _) Sc Ac hsz hall p e ha hc hk s m _ below hf ((Spec.applies_iff_loose hf).mp happ).1 ⟨rfl, State.Warmed39.refl s, rfl⟩ trivial
  refine ⟨n, _, h1, h2, h3, hpost _ _ _ _ _ _ ⟨Cond.after_iff.mpr rfl, Cond.after_iff.mpr (eq_i res_at (Term.int_eval (1)) rfl), trivial⟩ ⟨hq.1, hq.2.1, (hq.2.2.sift fun y hy => Or.inr (N y hy)).mono (by decide) (by decide)⟩⟩
theorem main_1_1 : Claimed_1_1 := comes_1 fun _ _ _ _ _ _ h hF => ⟨h.1, hF⟩
theorem main_1_2 : Claimed_1_2 := comes_1 fun _ _ _ _ _ _ h hF => ⟨h.2.1, hF⟩
end Jvm.Pilot.@@N@@
namespace Jvm.Pilot.@@N@@
open Jvm Jvm.ClassFile Sem Op Lib Jvm.Free Jvm.Stand Jvm.Pilot.@@N@@.Jvm.D
/-! MADE BY PROGRAM (witnessworld.py) out of the Statement's table words and the real class files: 18 classes; the members and pool entries that the words name. The judged class is class 1, her method 1. -/
namespace start1
open Jvm.ClassFile
def u (s : String) : CpInfo := .utf8 (stringToUtf16 s)
/-- a pool by its gaps: so many unusable entries, then the entry; so many at the end -/
def gap : Nat → List CpInfo → List CpInfo
  | 0, r => r
  | n + 1, r => .unusable :: gap n r
def poolList (es : List (Nat × CpInfo)) (last : Nat) : List CpInfo := es.foldr (fun e r => gap e.1 (e.2 :: r)) (gap last [])
def pool (es : List (Nat × CpInfo)) (last : Nat) : Array CpInfo := ⟨poolList es last⟩
def fileOf (pool : Array CpInfo) (this : Nat) (attrs : Array Attribute := #[]) (ms : Array MethodInfo := #[]) (fl : Nat := 33) (sup : Nat := 0) (ifs : Array Nat := #[]) (fds : Array FieldInfo := #[]) : ClassFile where
  minorVersion := 0
  majorVersion := 65
  constantPool := pool
  accessFlags := fl
  thisClass := this
  superClass := sup
  interfaces := ifs
  fields := fds
  methods := ms
  attributes := attrs
def plain (name : String) (sup : Option ClassId) : Class where
  name := name
  kind := .ordinary
  loader := none
  accessFlags := 33
  super := sup
  interfaces := #[]
  cf := none
  fields := #[]
  methods := #[]
  instanceTypes := #[]
  staticTypes := #[]
  resolved := #[]
  callSites := []
  init := .initialized
  statics := none
  mirror := none

def pool0 : Array CpInfo := pool [(5, u "<init>"), (0, u "()V"), (1, .class_ 10), (1, u "java/lang/Object")] 113

def k0c0 : Code := { maxStack := 0, maxLocals := 1, code := object_method_1_code, exceptionTable := #[], attributes := #[] }
def k0m0 : Method := { name := "<init>", desc := "()V", sig := { parameters := [], returnType := none }, accessFlags := 1, code := some k0c0 }
/-- java/lang/Object -/
def k0 : Class := { plain "java/lang/Object" none with
  accessFlags := 33
  interfaces := #[]
  cf := some (fileOf pool0 8 #[] #[{ accessFlags := 1, nameIndex := 5, descriptorIndex := 6, attributes := #[] }] 33 0 #[] #[])
  fields := #[]
  methods := #[k0m0]
  instanceTypes := #[]
  staticTypes := #[]
  resolved := Array.replicate 124 none
  statics := none }

def pool1 : Array CpInfo := pool [(2, .class_ 4), (1, u "java/lang/Object"), (0, u "<init>"), (0, u "()V"), (0, .integer 2147483647), (0, .methodref 9 10), (0, .class_ 11), (0, .nameAndType 12 13), (0, u "java/lang/Math"), (0, u "max"), (0, u "(II)I"), (0, .class_ 15), (0, u "com/example/ratatoskr/ratatoskr/cli/Bench$Settings"), (0, .methodref 17 18), (0, .class_ 19), (0, .nameAndType 20 21), (0, u "java/lang/Long"), (0, u "valueOf"), (0, u "(J)Ljava/lang/Long;"), (0, .methodref 14 23), (0, .nameAndType 5 24), (0, u "(IIIILjava/lang/Long;I)V"), (0, .methodref 14 26), (0, .nameAndType 27 28), (0, u "subscribersAt"), (0, u "(I)I"), (0, .methodref 30 31), (0, .class_ 32), (0, .nameAndType 33 34), (0, u "com/example/ratatoskr/ratatoskr/cli/SettingsSubscribersAtPinLaw"), (0, u "expected"), (0, u "(III)J"), (2, u "law"), (0, u "(IIIIJI)Z")] 7

def k1m0 : Method := { name := "<init>", desc := "()V", sig := { parameters := [], returnType := none }, accessFlags := 2, code := none }
def k1c1 : Code := { maxStack := 8, maxLocals := 12, code := code, exceptionTable := #[], attributes := #[] }
def k1m1 : Method := { name := "law", desc := "(IIIIJI)Z", sig := { parameters := [.int, .int, .int, .int, .long, .int], returnType := some .boolean }, accessFlags := 9, code := some k1c1 }
def k1c2 : Code := { maxStack := 4, maxLocals := 7, code := method_3_code, exceptionTable := #[], attributes := #[] }
def k1m2 : Method := { name := "expected", desc := "(III)J", sig := { parameters := [.int, .int, .int], returnType := some .long }, accessFlags := 10, code := some k1c2 }
/-- com/example/ratatoskr/ratatoskr/cli/SettingsSubscribersAtPinLaw -/
def k1 : Class := { plain "com/example/ratatoskr/ratatoskr/cli/SettingsSubscribersAtPinLaw" (some 0) with
  accessFlags := 49
  interfaces := #[]
  cf := some (fileOf pool1 30 #[] #[{ accessFlags := 2, nameIndex := 5, descriptorIndex := 6, attributes := #[] }, { accessFlags := 9, nameIndex := 37, descriptorIndex := 38, attributes := #[] }, { accessFlags := 10, nameIndex := 33, descriptorIndex := 34, attributes := #[] }] 49 2 #[] #[])
  fields := #[]
  methods := #[k1m0, k1m1, k1m2]
  instanceTypes := #[]
  staticTypes := #[]
  resolved := Array.replicate 46 none
  statics := none }

def pool2 : Array CpInfo := pool [(1, .class_ 2), (0, u "java/lang/Math"), (1, .class_ 6), (1, u "java/lang/Object"), (0, u "<init>"), (0, u "()V"), (89, .class_ 100), (1, u "java/lang/Math$RandomNumberGeneratorHolder"), (71, u "negativeZeroFloatBits"), (0, u "J"), (2, u "negativeZeroDoubleBits"), (21, u "max"), (46, u "$assertionsDisabled"), (0, u "Z"), (88, u "(II)I"), (2, u "twoToTheDoubleScaleDown"), (0, u "D"), (4, u "twoToTheDoubleScaleUp"), (9, u "E"), (3, u "PI"), (2, u "TAU"), (2, u "DEGREES_TO_RADIANS"), (0, u "RADIANS_TO_DEGREES")] 94

def k2m0 : Method := { name := "<init>", desc := "()V", sig := { parameters := [], returnType := none }, accessFlags := 2, code := none }
def k2c1 : Code := { maxStack := 2, maxLocals := 2, code := jdk_29_method_65_code, exceptionTable := #[], attributes := #[] }
def k2m1 : Method := { name := "max", desc := "(II)I", sig := { parameters := [.int, .int], returnType := some .int }, accessFlags := 9, code := some k2c1 }
/-- java/lang/Math -/
def k2 : Class := { plain "java/lang/Math" (some 0) with
  accessFlags := 49
  interfaces := #[]
  cf := some (fileOf pool2 1 #[.nestMembers #[98]] #[{ accessFlags := 2, nameIndex := 7, descriptorIndex := 8, attributes := #[] }, { accessFlags := 9, nameIndex := 198, descriptorIndex := 335, attributes := #[] }] 49 4 #[] #[{ accessFlags := 25, nameIndex := 354, descriptorIndex := 339, attributes := #[] }, { accessFlags := 25, nameIndex := 358, descriptorIndex := 339, attributes := #[] }, { accessFlags := 25, nameIndex := 361, descriptorIndex := 339, attributes := #[] }, { accessFlags := 26, nameIndex := 364, descriptorIndex := 339, attributes := #[] }, { accessFlags := 26, nameIndex := 365, descriptorIndex := 339, attributes := #[] }, { accessFlags := 26, nameIndex := 172, descriptorIndex := 173, attributes := #[] }, { accessFlags := 26, nameIndex := 176, descriptorIndex := 173, attributes := #[] }, { accessFlags := 8, nameIndex := 344, descriptorIndex := 339, attributes := #[] }, { accessFlags := 8, nameIndex := 338, descriptorIndex := 339, attributes := #[] }, { accessFlags := 4120, nameIndex := 245, descriptorIndex := 246, attributes := #[] }])
  fields := #[{ name := "E", type := .double, accessFlags := 25, slot := 0, constantValue := 0 }, { name := "PI", type := .double, accessFlags := 25, slot := 1, constantValue := 0 }, { name := "TAU", type := .double, accessFlags := 25, slot := 2, constantValue := 0 }, { name := "DEGREES_TO_RADIANS", type := .double, accessFlags := 26, slot := 3, constantValue := 0 }, { name := "RADIANS_TO_DEGREES", type := .double, accessFlags := 26, slot := 4, constantValue := 0 }, { name := "negativeZeroFloatBits", type := .long, accessFlags := 26, slot := 5, constantValue := 0 }, { name := "negativeZeroDoubleBits", type := .long, accessFlags := 26, slot := 6, constantValue := 0 }, { name := "twoToTheDoubleScaleUp", type := .double, accessFlags := 8, slot := 7, constantValue := 0 }, { name := "twoToTheDoubleScaleDown", type := .double, accessFlags := 8, slot := 8, constantValue := 0 }, { name := "$assertionsDisabled", type := .boolean, accessFlags := 4120, slot := 9, constantValue := 0 }]
  methods := #[k2m0, k2m1]
  instanceTypes := #[]
  staticTypes := #[.double, .double, .double, .double, .double, .long, .long, .double, .double, .boolean]
  resolved := Array.replicate 460 none
  statics := none }

def pool3 : Array CpInfo := pool [(1, .methodref 2 3), (0, .class_ 4), (0, .nameAndType 5 6), (0, u "java/lang/Object"), (0, u "<init>"), (0, u "()V"), (0, .class_ 8), (0, u "java/lang/Record")] 13

def k3c0 : Code := { maxStack := 1, maxLocals := 1, code := jdk_30_method_1_code, exceptionTable := #[], attributes := #[] }
def k3m0 : Method := { name := "<init>", desc := "()V", sig := { parameters := [], returnType := none }, accessFlags := 4, code := some k3c0 }
/-- java/lang/Record -/
def k3 : Class := { plain "java/lang/Record" (some 0) with
  accessFlags := 1057
  interfaces := #[]
  cf := some (fileOf pool3 7 #[] #[{ accessFlags := 4, nameIndex := 5, descriptorIndex := 6, attributes := #[] }] 1057 2 #[] #[])
  fields := #[]
  methods := #[k3m0]
  instanceTypes := #[]
  staticTypes := #[]
  resolved := Array.replicate 22 none
  statics := none }

def pool4 : Array CpInfo := pool [(1, .methodref 2 3), (0, .class_ 4), (0, .nameAndType 5 6), (0, u "java/lang/Record"), (0, u "<init>"), (0, u "()V"), (0, .fieldref 8 9), (0, .class_ 10), (0, .nameAndType 11 12), (0, u "com/example/ratatoskr/ratatoskr/cli/Bench$Settings"), (0, u "processes"), (0, u "I"), (0, .fieldref 8 14), (0, .nameAndType 15 12), (0, u "subscribers"), (0, .fieldref 8 17), (0, .nameAndType 18 12), (0, u "count"), (0, .fieldref 8 20), (0, .nameAndType 21 12), (0, u "size"), (0, .fieldref 8 23), (0, .nameAndType 24 25), (0, u "rate"), (0, u "Ljava/lang/Long;"), (0, .fieldref 8 27), (0, .nameAndType 28 12), (0, u "basePort"), (54, u "(IIIILjava/lang/Long;I)V"), (20, u "subscribersAt"), (0, u "(I)I"), (10, .class_ 117), (0, u "com/example/ratatoskr/ratatoskr/cli/Bench")] 32

def k4c0 : Code := { maxStack := 2, maxLocals := 7, code := prog_4_method_1_code, exceptionTable := #[], attributes := #[] }
def k4m0 : Method := { name := "<init>", desc := "(IIIILjava/lang/Long;I)V", sig := { parameters := [.int, .int, .int, .int, (.object "java/lang/Long"), .int], returnType := none }, accessFlags := 0, code := some k4c0 }
def k4c1 : Code := { maxStack := 3, maxLocals := 4, code := prog_4_method_3_code, exceptionTable := #[], attributes := #[] }
def k4m1 : Method := { name := "subscribersAt", desc := "(I)I", sig := { parameters := [.int], returnType := some .int }, accessFlags := 0, code := some k4c1 }
/-- com/example/ratatoskr/ratatoskr/cli/Bench$Settings -/
def k4 : Class := { plain "com/example/ratatoskr/ratatoskr/cli/Bench$Settings" (some 3) with
  accessFlags := 48
  interfaces := #[]
  cf := some (fileOf pool4 8 #[.nestHost 116] #[{ accessFlags := 0, nameIndex := 5, descriptorIndex := 83, attributes := #[] }, { accessFlags := 0, nameIndex := 104, descriptorIndex := 105, attributes := #[] }] 48 2 #[] #[{ accessFlags := 18, nameIndex := 11, descriptorIndex := 12, attributes := #[] }, { accessFlags := 18, nameIndex := 15, descriptorIndex := 12, attributes := #[] }, { accessFlags := 18, nameIndex := 18, descriptorIndex := 12, attributes := #[] }, { accessFlags := 18, nameIndex := 21, descriptorIndex := 12, attributes := #[] }, { accessFlags := 18, nameIndex := 24, descriptorIndex := 25, attributes := #[] }, { accessFlags := 18, nameIndex := 28, descriptorIndex := 12, attributes := #[] }])
  fields := #[{ name := "processes", type := .int, accessFlags := 18, slot := 0, constantValue := 0 }, { name := "subscribers", type := .int, accessFlags := 18, slot := 1, constantValue := 0 }, { name := "count", type := .int, accessFlags := 18, slot := 2, constantValue := 0 }, { name := "size", type := .int, accessFlags := 18, slot := 3, constantValue := 0 }, { name := "rate", type := (.object "java/lang/Long"), accessFlags := 18, slot := 4, constantValue := 0 }, { name := "basePort", type := .int, accessFlags := 18, slot := 5, constantValue := 0 }]
  methods := #[k4m0, k4m1]
  instanceTypes := #[.int, .int, .int, .int, (.object "java/lang/Long"), .int]
  staticTypes := #[]
  resolved := Array.replicate 150 none
  statics := none }

def pool5 : Array CpInfo := pool [(1, .class_ 2), (0, u "java/io/Serializable"), (0, .class_ 4), (0, u "java/lang/Object")] 2

/-- java/io/Serializable -/
def k5 : Class := { plain "java/io/Serializable" (some 0) with
  accessFlags := 1537
  interfaces := #[]
  cf := some (fileOf pool5 1 #[] #[] 1537 3 #[] #[])
  fields := #[]
  methods := #[]
  instanceTypes := #[]
  staticTypes := #[]
  resolved := Array.replicate 7 none
  statics := none }

def pool6 : Array CpInfo := pool [(1, .methodref 2 3), (0, .class_ 4), (0, .nameAndType 5 6), (0, u "java/lang/Object"), (0, u "<init>"), (0, u "()V"), (1, .class_ 10), (1, u "java/lang/Number"), (2, .class_ 14), (0, u "java/io/Serializable"), (0, u "serialVersionUID"), (0, u "J")] 20

def k6c0 : Code := { maxStack := 1, maxLocals := 1, code := jdk_18_method_1_code, exceptionTable := #[], attributes := #[] }
def k6m0 : Method := { name := "<init>", desc := "()V", sig := { parameters := [], returnType := none }, accessFlags := 1, code := some k6c0 }
/-- java/lang/Number -/
def k6 : Class := { plain "java/lang/Number" (some 0) with
  accessFlags := 1057
  interfaces := #[5]
  cf := some (fileOf pool6 8 #[] #[{ accessFlags := 1, nameIndex := 5, descriptorIndex := 6, attributes := #[] }] 1057 2 #[13] #[{ accessFlags := 26, nameIndex := 15, descriptorIndex := 16, attributes := #[] }])
  fields := #[{ name := "serialVersionUID", type := .long, accessFlags := 26, slot := 0, constantValue := 0 }]
  methods := #[k6m0]
  instanceTypes := #[]
  staticTypes := #[.long]
  resolved := Array.replicate 37 none
  statics := none }

def pool7 : Array CpInfo := pool [(1, .class_ 2), (0, u "java/lang/Comparable"), (0, .class_ 4), (0, u "java/lang/Object")] 7

/-- java/lang/Comparable -/
def k7 : Class := { plain "java/lang/Comparable" (some 0) with
  accessFlags := 1537
  interfaces := #[]
  cf := some (fileOf pool7 1 #[] #[] 1537 3 #[] #[])
  fields := #[]
  methods := #[]
  instanceTypes := #[]
  staticTypes := #[]
  resolved := Array.replicate 12 none
  statics := none }

def pool8 : Array CpInfo := pool [(1, .class_ 2), (0, u "java/lang/constant/Constable"), (0, .class_ 4), (0, u "java/lang/Object")] 6

/-- java/lang/constant/Constable -/
def k8 : Class := { plain "java/lang/constant/Constable" (some 0) with
  accessFlags := 1537
  interfaces := #[]
  cf := some (fileOf pool8 1 #[] #[] 1537 3 #[] #[])
  fields := #[]
  methods := #[]
  instanceTypes := #[]
  staticTypes := #[]
  resolved := Array.replicate 11 none
  statics := none }

def pool9 : Array CpInfo := pool [(1, .class_ 2), (0, u "java/lang/constant/ConstantDesc"), (0, .class_ 4), (0, u "java/lang/Object")] 32

/-- java/lang/constant/ConstantDesc -/
def k9 : Class := { plain "java/lang/constant/ConstantDesc" (some 0) with
  accessFlags := 1537
  interfaces := #[]
  cf := some (fileOf pool9 1 #[] #[] 1537 3 #[] #[])
  fields := #[]
  methods := #[]
  instanceTypes := #[]
  staticTypes := #[]
  resolved := Array.replicate 37 none
  statics := none }

def pool10 : Array CpInfo := pool [(1, .class_ 2), (0, u "java/lang/Long"), (55, .nameAndType 59 60), (0, u "<init>"), (0, u "()V"), (24, u "valueOf"), (143, u "(J)Ljava/lang/Long;"), (0, .long 18446744073709551488), (1, .long 127), (1, .fieldref 235 236), (0, .class_ 237), (0, .nameAndType 238 239), (0, u "java/lang/Long$LongCache"), (0, u "cache"), (0, u "[Ljava/lang/Long;"), (0, .methodref 1 241), (0, .nameAndType 59 242), (0, u "(J)V"), (27, .methodref 271 58), (0, .class_ 272), (0, u "java/lang/Number"), (0, .fieldref 1 274), (0, .nameAndType 275 276), (0, u "value"), (0, u "J"), (84, u "TYPE"), (0, u "Ljava/lang/Class;"), (0, .class_ 364), (0, u "java/lang/Comparable"), (0, .class_ 366), (0, u "java/lang/constant/Constable"), (0, .class_ 368), (0, u "java/lang/constant/ConstantDesc"), (0, u "MIN_VALUE"), (1, u "MAX_VALUE"), (4, u "SIZE"), (0, u "I"), (1, u "BYTES"), (1, u "serialVersionUID")] 142

def k10c0 : Code := { maxStack := 4, maxLocals := 3, code := jdk_35_method_24_code, exceptionTable := #[], attributes := #[] }
def k10m0 : Method := { name := "valueOf", desc := "(J)Ljava/lang/Long;", sig := { parameters := [.long], returnType := some (.object "java/lang/Long") }, accessFlags := 9, code := some k10c0 }
def k10c1 : Code := { maxStack := 3, maxLocals := 3, code := jdk_35_method_26_code, exceptionTable := #[], attributes := #[] }
def k10m1 : Method := { name := "<init>", desc := "(J)V", sig := { parameters := [.long], returnType := none }, accessFlags := 1, code := some k10c1 }
/-- java/lang/Long -/
def k10 : Class := { plain "java/lang/Long" (some 6) with
  accessFlags := 49
  interfaces := #[7, 8, 9]
  cf := some (fileOf pool10 1 #[.nestMembers #[235]] #[{ accessFlags := 9, nameIndex := 85, descriptorIndex := 229, attributes := #[] }, { accessFlags := 1, nameIndex := 59, descriptorIndex := 242, attributes := #[] }] 49 271 #[363, 365, 367] #[{ accessFlags := 25, nameIndex := 369, descriptorIndex := 276, attributes := #[] }, { accessFlags := 25, nameIndex := 371, descriptorIndex := 276, attributes := #[] }, { accessFlags := 25, nameIndex := 361, descriptorIndex := 362, attributes := #[] }, { accessFlags := 18, nameIndex := 275, descriptorIndex := 276, attributes := #[] }, { accessFlags := 25, nameIndex := 376, descriptorIndex := 377, attributes := #[] }, { accessFlags := 25, nameIndex := 379, descriptorIndex := 377, attributes := #[] }, { accessFlags := 26, nameIndex := 381, descriptorIndex := 276, attributes := #[] }])
  fields := #[{ name := "MIN_VALUE", type := .long, accessFlags := 25, slot := 0, constantValue := 0 }, { name := "MAX_VALUE", type := .long, accessFlags := 25, slot := 1, constantValue := 0 }, { name := "TYPE", type := (.object "java/lang/Class"), accessFlags := 25, slot := 2, constantValue := 0 }, { name := "value", type := .long, accessFlags := 18, slot := 0, constantValue := 0 }, { name := "SIZE", type := .int, accessFlags := 25, slot := 3, constantValue := 0 }, { name := "BYTES", type := .int, accessFlags := 25, slot := 4, constantValue := 0 }, { name := "serialVersionUID", type := .long, accessFlags := 26, slot := 5, constantValue := 0 }]
  methods := #[k10m0, k10m1]
  instanceTypes := #[.long]
  staticTypes := #[.long, .long, (.object "java/lang/Class"), .int, .int, .long]
  resolved := Array.replicate 524 none
  statics := none }

def pool11 : Array CpInfo := pool [(2, .class_ 4), (1, u "java/lang/Object"), (0, u "<init>"), (0, u "()V"), (0, .class_ 8), (0, u "java/lang/Long"), (7, .class_ 18), (1, u "java/lang/Long$LongCache"), (0, u "$assertionsDisabled"), (0, u "Z"), (8, u "archivedCache"), (0, u "[Ljava/lang/Long;"), (7, u "cache")] 24

def k11m0 : Method := { name := "<init>", desc := "()V", sig := { parameters := [], returnType := none }, accessFlags := 2, code := none }
/-- java/lang/Long$LongCache -/
def k11 : Class := { plain "java/lang/Long$LongCache" (some 0) with
  accessFlags := 48
  interfaces := #[]
  cf := some (fileOf pool11 16 #[.nestHost 7] #[{ accessFlags := 2, nameIndex := 5, descriptorIndex := 6, attributes := #[] }] 48 2 #[] #[{ accessFlags := 24, nameIndex := 38, descriptorIndex := 30, attributes := #[] }, { accessFlags := 8, nameIndex := 29, descriptorIndex := 30, attributes := #[] }, { accessFlags := 4120, nameIndex := 19, descriptorIndex := 20, attributes := #[] }])
  fields := #[{ name := "cache", type := (.array (.object "java/lang/Long")), accessFlags := 24, slot := 0, constantValue := 0 }, { name := "archivedCache", type := (.array (.object "java/lang/Long")), accessFlags := 8, slot := 1, constantValue := 0 }, { name := "$assertionsDisabled", type := .boolean, accessFlags := 4120, slot := 2, constantValue := 0 }]
  methods := #[k11m0]
  instanceTypes := #[]
  staticTypes := #[(.array (.object "java/lang/Long")), (.array (.object "java/lang/Long")), .boolean]
  resolved := Array.replicate 63 none
  statics := some 0 }

def pool12 : Array CpInfo := pool [(1, u "java/lang/Cloneable"), (0, .class_ 1), (0, u "java/lang/Object"), (0, .class_ 3)] 3

/-- java/lang/Cloneable -/
def k12 : Class := { plain "java/lang/Cloneable" (some 0) with
  accessFlags := 1537
  interfaces := #[]
  cf := some (fileOf pool12 2 #[] #[] 1537 4 #[] #[])
  fields := #[]
  methods := #[]
  instanceTypes := #[]
  staticTypes := #[]
  resolved := Array.replicate 8 none
  statics := none }

/-- the primitive byte -/
def k13 : Class := { plain "byte" none with kind := .primitive 'B', accessFlags := 0x411 }
/-- [B -/
def k14 : Class := { plain "[B" (some 0) with kind := .array 13 .byte, interfaces := #[12, 5], accessFlags := 1041 }

/-- the primitive int -/
def k15 : Class := { plain "int" none with kind := .primitive 'I', accessFlags := 0x411 }
/-- [I -/
def k16 : Class := { plain "[I" (some 0) with kind := .array 15 .int, interfaces := #[12, 5], accessFlags := 1041 }

/-- [Ljava/lang/Long; -/
def k17 : Class := { plain "[Ljava/lang/Long;" (some 0) with kind := .array 10 (.object "java/lang/Long"), interfaces := #[12, 5], accessFlags := 1041 }

def heap : Heap := #[{ cls := 11, slots := #[.ref 1, .null, .int 0], vm := .statics 11 },
  { cls := 17, slots := #[.ref 2, .ref 3, .ref 4, .ref 5, .ref 6, .ref 7, .ref 8, .ref 9, .ref 10, .ref 11, .ref 12, .ref 13, .ref 14, .ref 15, .ref 16, .ref 17, .ref 18, .ref 19, .ref 20, .ref 21, .ref 22, .ref 23, .ref 24, .ref 25, .ref 26, .ref 27, .ref 28, .ref 29, .ref 30, .ref 31, .ref 32, .ref 33, .ref 34, .ref 35, .ref 36, .ref 37, .ref 38, .ref 39, .ref 40, .ref 41, .ref 42, .ref 43, .ref 44, .ref 45, .ref 46, .ref 47, .ref 48, .ref 49, .ref 50, .ref 51, .ref 52, .ref 53, .ref 54, .ref 55, .ref 56, .ref 57, .ref 58, .ref 59, .ref 60, .ref 61, .ref 62, .ref 63, .ref 64, .ref 65, .ref 66, .ref 67, .ref 68, .ref 69, .ref 70, .ref 71, .ref 72, .ref 73, .ref 74, .ref 75, .ref 76, .ref 77, .ref 78, .ref 79, .ref 80, .ref 81, .ref 82, .ref 83, .ref 84, .ref 85, .ref 86, .ref 87, .ref 88, .ref 89, .ref 90, .ref 91, .ref 92, .ref 93, .ref 94, .ref 95, .ref 96, .ref 97, .ref 98, .ref 99, .ref 100, .ref 101, .ref 102, .ref 103, .ref 104, .ref 105, .ref 106, .ref 107, .ref 108, .ref 109, .ref 110, .ref 111, .ref 112, .ref 113, .ref 114, .ref 115, .ref 116, .ref 117, .ref 118, .ref 119, .ref 120, .ref 121, .ref 122, .ref 123, .ref 124, .ref 125, .ref 126, .ref 127, .ref 128, .ref 129, .ref 130, .ref 131, .ref 132, .ref 133, .ref 134, .ref 135, .ref 136, .ref 137, .ref 138, .ref 139, .ref 140, .ref 141, .ref 142, .ref 143, .ref 144, .ref 145, .ref 146, .ref 147, .ref 148, .ref 149, .ref 150, .ref 151, .ref 152, .ref 153, .ref 154, .ref 155, .ref 156, .ref 157, .ref 158, .ref 159, .ref 160, .ref 161, .ref 162, .ref 163, .ref 164, .ref 165, .ref 166, .ref 167, .ref 168, .ref 169, .ref 170, .ref 171, .ref 172, .ref 173, .ref 174, .ref 175, .ref 176, .ref 177, .ref 178, .ref 179, .ref 180, .ref 181, .ref 182, .ref 183, .ref 184, .ref 185, .ref 186, .ref 187, .ref 188, .ref 189, .ref 190, .ref 191, .ref 192, .ref 193, .ref 194, .ref 195, .ref 196, .ref 197, .ref 198, .ref 199, .ref 200, .ref 201, .ref 202, .ref 203, .ref 204, .ref 205, .ref 206, .ref 207, .ref 208, .ref 209, .ref 210, .ref 211, .ref 212, .ref 213, .ref 214, .ref 215, .ref 216, .ref 217, .ref 218, .ref 219, .ref 220, .ref 221, .ref 222, .ref 223, .ref 224, .ref 225, .ref 226, .ref 227, .ref 228, .ref 229, .ref 230, .ref 231, .ref 232, .ref 233, .ref 234, .ref 235, .ref 236, .ref 237, .ref 238, .ref 239, .ref 240, .ref 241, .ref 242, .ref 243, .ref 244, .ref 245, .ref 246, .ref 247, .ref 248, .ref 249, .ref 250, .ref 251, .ref 252, .ref 253, .ref 254, .ref 255, .ref 256, .ref 257], vm := .none },
  { cls := 10, slots := #[.long (-128)], vm := .none },
  { cls := 10, slots := #[.long (-127)], vm := .none },
  { cls := 10, slots := #[.long (-126)], vm := .none },
  { cls := 10, slots := #[.long (-125)], vm := .none },
  { cls := 10, slots := #[.long (-124)], vm := .none },
  { cls := 10, slots := #[.long (-123)], vm := .none },
  { cls := 10, slots := #[.long (-122)], vm := .none },
  { cls := 10, slots := #[.long (-121)], vm := .none },
  { cls := 10, slots := #[.long (-120)], vm := .none },
  { cls := 10, slots := #[.long (-119)], vm := .none },
  { cls := 10, slots := #[.long (-118)], vm := .none },
  { cls := 10, slots := #[.long (-117)], vm := .none },
  { cls := 10, slots := #[.long (-116)], vm := .none },
  { cls := 10, slots := #[.long (-115)], vm := .none },
  { cls := 10, slots := #[.long (-114)], vm := .none },
  { cls := 10, slots := #[.long (-113)], vm := .none },
  { cls := 10, slots := #[.long (-112)], vm := .none },
  { cls := 10, slots := #[.long (-111)], vm := .none },
  { cls := 10, slots := #[.long (-110)], vm := .none },
  { cls := 10, slots := #[.long (-109)], vm := .none },
  { cls := 10, slots := #[.long (-108)], vm := .none },
  { cls := 10, slots := #[.long (-107)], vm := .none },
  { cls := 10, slots := #[.long (-106)], vm := .none },
  { cls := 10, slots := #[.long (-105)], vm := .none },
  { cls := 10, slots := #[.long (-104)], vm := .none },
  { cls := 10, slots := #[.long (-103)], vm := .none },
  { cls := 10, slots := #[.long (-102)], vm := .none },
  { cls := 10, slots := #[.long (-101)], vm := .none },
  { cls := 10, slots := #[.long (-100)], vm := .none },
  { cls := 10, slots := #[.long (-99)], vm := .none },
  { cls := 10, slots := #[.long (-98)], vm := .none },
  { cls := 10, slots := #[.long (-97)], vm := .none },
  { cls := 10, slots := #[.long (-96)], vm := .none },
  { cls := 10, slots := #[.long (-95)], vm := .none },
  { cls := 10, slots := #[.long (-94)], vm := .none },
  { cls := 10, slots := #[.long (-93)], vm := .none },
  { cls := 10, slots := #[.long (-92)], vm := .none },
  { cls := 10, slots := #[.long (-91)], vm := .none },
  { cls := 10, slots := #[.long (-90)], vm := .none },
  { cls := 10, slots := #[.long (-89)], vm := .none },
  { cls := 10, slots := #[.long (-88)], vm := .none },
  { cls := 10, slots := #[.long (-87)], vm := .none },
  { cls := 10, slots := #[.long (-86)], vm := .none },
  { cls := 10, slots := #[.long (-85)], vm := .none },
  { cls := 10, slots := #[.long (-84)], vm := .none },
  { cls := 10, slots := #[.long (-83)], vm := .none },
  { cls := 10, slots := #[.long (-82)], vm := .none },
  { cls := 10, slots := #[.long (-81)], vm := .none },
  { cls := 10, slots := #[.long (-80)], vm := .none },
  { cls := 10, slots := #[.long (-79)], vm := .none },
  { cls := 10, slots := #[.long (-78)], vm := .none },
  { cls := 10, slots := #[.long (-77)], vm := .none },
  { cls := 10, slots := #[.long (-76)], vm := .none },
  { cls := 10, slots := #[.long (-75)], vm := .none },
  { cls := 10, slots := #[.long (-74)], vm := .none },
  { cls := 10, slots := #[.long (-73)], vm := .none },
  { cls := 10, slots := #[.long (-72)], vm := .none },
  { cls := 10, slots := #[.long (-71)], vm := .none },
  { cls := 10, slots := #[.long (-70)], vm := .none },
  { cls := 10, slots := #[.long (-69)], vm := .none },
  { cls := 10, slots := #[.long (-68)], vm := .none },
  { cls := 10, slots := #[.long (-67)], vm := .none },
  { cls := 10, slots := #[.long (-66)], vm := .none },
  { cls := 10, slots := #[.long (-65)], vm := .none },
  { cls := 10, slots := #[.long (-64)], vm := .none },
  { cls := 10, slots := #[.long (-63)], vm := .none },
  { cls := 10, slots := #[.long (-62)], vm := .none },
  { cls := 10, slots := #[.long (-61)], vm := .none },
  { cls := 10, slots := #[.long (-60)], vm := .none },
  { cls := 10, slots := #[.long (-59)], vm := .none },
  { cls := 10, slots := #[.long (-58)], vm := .none },
  { cls := 10, slots := #[.long (-57)], vm := .none },
  { cls := 10, slots := #[.long (-56)], vm := .none },
  { cls := 10, slots := #[.long (-55)], vm := .none },
  { cls := 10, slots := #[.long (-54)], vm := .none },
  { cls := 10, slots := #[.long (-53)], vm := .none },
  { cls := 10, slots := #[.long (-52)], vm := .none },
  { cls := 10, slots := #[.long (-51)], vm := .none },
  { cls := 10, slots := #[.long (-50)], vm := .none },
  { cls := 10, slots := #[.long (-49)], vm := .none },
  { cls := 10, slots := #[.long (-48)], vm := .none },
  { cls := 10, slots := #[.long (-47)], vm := .none },
  { cls := 10, slots := #[.long (-46)], vm := .none },
  { cls := 10, slots := #[.long (-45)], vm := .none },
  { cls := 10, slots := #[.long (-44)], vm := .none },
  { cls := 10, slots := #[.long (-43)], vm := .none },
  { cls := 10, slots := #[.long (-42)], vm := .none },
  { cls := 10, slots := #[.long (-41)], vm := .none },
  { cls := 10, slots := #[.long (-40)], vm := .none },
  { cls := 10, slots := #[.long (-39)], vm := .none },
  { cls := 10, slots := #[.long (-38)], vm := .none },
  { cls := 10, slots := #[.long (-37)], vm := .none },
  { cls := 10, slots := #[.long (-36)], vm := .none },
  { cls := 10, slots := #[.long (-35)], vm := .none },
  { cls := 10, slots := #[.long (-34)], vm := .none },
  { cls := 10, slots := #[.long (-33)], vm := .none },
  { cls := 10, slots := #[.long (-32)], vm := .none },
  { cls := 10, slots := #[.long (-31)], vm := .none },
  { cls := 10, slots := #[.long (-30)], vm := .none },
  { cls := 10, slots := #[.long (-29)], vm := .none },
  { cls := 10, slots := #[.long (-28)], vm := .none },
  { cls := 10, slots := #[.long (-27)], vm := .none },
  { cls := 10, slots := #[.long (-26)], vm := .none },
  { cls := 10, slots := #[.long (-25)], vm := .none },
  { cls := 10, slots := #[.long (-24)], vm := .none },
  { cls := 10, slots := #[.long (-23)], vm := .none },
  { cls := 10, slots := #[.long (-22)], vm := .none },
  { cls := 10, slots := #[.long (-21)], vm := .none },
  { cls := 10, slots := #[.long (-20)], vm := .none },
  { cls := 10, slots := #[.long (-19)], vm := .none },
  { cls := 10, slots := #[.long (-18)], vm := .none },
  { cls := 10, slots := #[.long (-17)], vm := .none },
  { cls := 10, slots := #[.long (-16)], vm := .none },
  { cls := 10, slots := #[.long (-15)], vm := .none },
  { cls := 10, slots := #[.long (-14)], vm := .none },
  { cls := 10, slots := #[.long (-13)], vm := .none },
  { cls := 10, slots := #[.long (-12)], vm := .none },
  { cls := 10, slots := #[.long (-11)], vm := .none },
  { cls := 10, slots := #[.long (-10)], vm := .none },
  { cls := 10, slots := #[.long (-9)], vm := .none },
  { cls := 10, slots := #[.long (-8)], vm := .none },
  { cls := 10, slots := #[.long (-7)], vm := .none },
  { cls := 10, slots := #[.long (-6)], vm := .none },
  { cls := 10, slots := #[.long (-5)], vm := .none },
  { cls := 10, slots := #[.long (-4)], vm := .none },
  { cls := 10, slots := #[.long (-3)], vm := .none },
  { cls := 10, slots := #[.long (-2)], vm := .none },
  { cls := 10, slots := #[.long (-1)], vm := .none },
  { cls := 10, slots := #[.long (0)], vm := .none },
  { cls := 10, slots := #[.long (1)], vm := .none },
  { cls := 10, slots := #[.long (2)], vm := .none },
  { cls := 10, slots := #[.long (3)], vm := .none },
  { cls := 10, slots := #[.long (4)], vm := .none },
  { cls := 10, slots := #[.long (5)], vm := .none },
  { cls := 10, slots := #[.long (6)], vm := .none },
  { cls := 10, slots := #[.long (7)], vm := .none },
  { cls := 10, slots := #[.long (8)], vm := .none },
  { cls := 10, slots := #[.long (9)], vm := .none },
  { cls := 10, slots := #[.long (10)], vm := .none },
  { cls := 10, slots := #[.long (11)], vm := .none },
  { cls := 10, slots := #[.long (12)], vm := .none },
  { cls := 10, slots := #[.long (13)], vm := .none },
  { cls := 10, slots := #[.long (14)], vm := .none },
  { cls := 10, slots := #[.long (15)], vm := .none },
  { cls := 10, slots := #[.long (16)], vm := .none },
  { cls := 10, slots := #[.long (17)], vm := .none },
  { cls := 10, slots := #[.long (18)], vm := .none },
  { cls := 10, slots := #[.long (19)], vm := .none },
  { cls := 10, slots := #[.long (20)], vm := .none },
  { cls := 10, slots := #[.long (21)], vm := .none },
  { cls := 10, slots := #[.long (22)], vm := .none },
  { cls := 10, slots := #[.long (23)], vm := .none },
  { cls := 10, slots := #[.long (24)], vm := .none },
  { cls := 10, slots := #[.long (25)], vm := .none },
  { cls := 10, slots := #[.long (26)], vm := .none },
  { cls := 10, slots := #[.long (27)], vm := .none },
  { cls := 10, slots := #[.long (28)], vm := .none },
  { cls := 10, slots := #[.long (29)], vm := .none },
  { cls := 10, slots := #[.long (30)], vm := .none },
  { cls := 10, slots := #[.long (31)], vm := .none },
  { cls := 10, slots := #[.long (32)], vm := .none },
  { cls := 10, slots := #[.long (33)], vm := .none },
  { cls := 10, slots := #[.long (34)], vm := .none },
  { cls := 10, slots := #[.long (35)], vm := .none },
  { cls := 10, slots := #[.long (36)], vm := .none },
  { cls := 10, slots := #[.long (37)], vm := .none },
  { cls := 10, slots := #[.long (38)], vm := .none },
  { cls := 10, slots := #[.long (39)], vm := .none },
  { cls := 10, slots := #[.long (40)], vm := .none },
  { cls := 10, slots := #[.long (41)], vm := .none },
  { cls := 10, slots := #[.long (42)], vm := .none },
  { cls := 10, slots := #[.long (43)], vm := .none },
  { cls := 10, slots := #[.long (44)], vm := .none },
  { cls := 10, slots := #[.long (45)], vm := .none },
  { cls := 10, slots := #[.long (46)], vm := .none },
  { cls := 10, slots := #[.long (47)], vm := .none },
  { cls := 10, slots := #[.long (48)], vm := .none },
  { cls := 10, slots := #[.long (49)], vm := .none },
  { cls := 10, slots := #[.long (50)], vm := .none },
  { cls := 10, slots := #[.long (51)], vm := .none },
  { cls := 10, slots := #[.long (52)], vm := .none },
  { cls := 10, slots := #[.long (53)], vm := .none },
  { cls := 10, slots := #[.long (54)], vm := .none },
  { cls := 10, slots := #[.long (55)], vm := .none },
  { cls := 10, slots := #[.long (56)], vm := .none },
  { cls := 10, slots := #[.long (57)], vm := .none },
  { cls := 10, slots := #[.long (58)], vm := .none },
  { cls := 10, slots := #[.long (59)], vm := .none },
  { cls := 10, slots := #[.long (60)], vm := .none },
  { cls := 10, slots := #[.long (61)], vm := .none },
  { cls := 10, slots := #[.long (62)], vm := .none },
  { cls := 10, slots := #[.long (63)], vm := .none },
  { cls := 10, slots := #[.long (64)], vm := .none },
  { cls := 10, slots := #[.long (65)], vm := .none },
  { cls := 10, slots := #[.long (66)], vm := .none },
  { cls := 10, slots := #[.long (67)], vm := .none },
  { cls := 10, slots := #[.long (68)], vm := .none },
  { cls := 10, slots := #[.long (69)], vm := .none },
  { cls := 10, slots := #[.long (70)], vm := .none },
  { cls := 10, slots := #[.long (71)], vm := .none },
  { cls := 10, slots := #[.long (72)], vm := .none },
  { cls := 10, slots := #[.long (73)], vm := .none },
  { cls := 10, slots := #[.long (74)], vm := .none },
  { cls := 10, slots := #[.long (75)], vm := .none },
  { cls := 10, slots := #[.long (76)], vm := .none },
  { cls := 10, slots := #[.long (77)], vm := .none },
  { cls := 10, slots := #[.long (78)], vm := .none },
  { cls := 10, slots := #[.long (79)], vm := .none },
  { cls := 10, slots := #[.long (80)], vm := .none },
  { cls := 10, slots := #[.long (81)], vm := .none },
  { cls := 10, slots := #[.long (82)], vm := .none },
  { cls := 10, slots := #[.long (83)], vm := .none },
  { cls := 10, slots := #[.long (84)], vm := .none },
  { cls := 10, slots := #[.long (85)], vm := .none },
  { cls := 10, slots := #[.long (86)], vm := .none },
  { cls := 10, slots := #[.long (87)], vm := .none },
  { cls := 10, slots := #[.long (88)], vm := .none },
  { cls := 10, slots := #[.long (89)], vm := .none },
  { cls := 10, slots := #[.long (90)], vm := .none },
  { cls := 10, slots := #[.long (91)], vm := .none },
  { cls := 10, slots := #[.long (92)], vm := .none },
  { cls := 10, slots := #[.long (93)], vm := .none },
  { cls := 10, slots := #[.long (94)], vm := .none },
  { cls := 10, slots := #[.long (95)], vm := .none },
  { cls := 10, slots := #[.long (96)], vm := .none },
  { cls := 10, slots := #[.long (97)], vm := .none },
  { cls := 10, slots := #[.long (98)], vm := .none },
  { cls := 10, slots := #[.long (99)], vm := .none },
  { cls := 10, slots := #[.long (100)], vm := .none },
  { cls := 10, slots := #[.long (101)], vm := .none },
  { cls := 10, slots := #[.long (102)], vm := .none },
  { cls := 10, slots := #[.long (103)], vm := .none },
  { cls := 10, slots := #[.long (104)], vm := .none },
  { cls := 10, slots := #[.long (105)], vm := .none },
  { cls := 10, slots := #[.long (106)], vm := .none },
  { cls := 10, slots := #[.long (107)], vm := .none },
  { cls := 10, slots := #[.long (108)], vm := .none },
  { cls := 10, slots := #[.long (109)], vm := .none },
  { cls := 10, slots := #[.long (110)], vm := .none },
  { cls := 10, slots := #[.long (111)], vm := .none },
  { cls := 10, slots := #[.long (112)], vm := .none },
  { cls := 10, slots := #[.long (113)], vm := .none },
  { cls := 10, slots := #[.long (114)], vm := .none },
  { cls := 10, slots := #[.long (115)], vm := .none },
  { cls := 10, slots := #[.long (116)], vm := .none },
  { cls := 10, slots := #[.long (117)], vm := .none },
  { cls := 10, slots := #[.long (118)], vm := .none },
  { cls := 10, slots := #[.long (119)], vm := .none },
  { cls := 10, slots := #[.long (120)], vm := .none },
  { cls := 10, slots := #[.long (121)], vm := .none },
  { cls := 10, slots := #[.long (122)], vm := .none },
  { cls := 10, slots := #[.long (123)], vm := .none },
  { cls := 10, slots := #[.long (124)], vm := .none },
  { cls := 10, slots := #[.long (125)], vm := .none },
  { cls := 10, slots := #[.long (126)], vm := .none },
  { cls := 10, slots := #[.long (127)], vm := .none }]
def classes : Array Class := #[k0, k1, k2, k3, k4, k5, k6, k7, k8, k9, k10, k11, k12, k13, k14, k15, k16, k17]
def interned : List (Array UInt16 × Addr) := []
def slotsUsed : Nat := 515
def theMethod : MethodId := ⟨1, 1⟩
def args0 : Array Value := #[.int 5, .int 3, .int 5, .int 3, .long 7, .int 3]
def aboutOver (below : List Frame) : State where
  vm := { classes := classes, interned := interned.toArray }
  heap := heap
  slotsUsed := slotsUsed
  threads := #[{ frames := .invoking theMethod args0 :: below }]
def below0 : List Frame := [.native { method := ⟨0, 0⟩, args := #[] }]
def about1 : State := aboutOver below0
def p0 : Program := .bare "" "" ""
def e0 : Env := launch0.env 0 0 0
theorem w_frames : about1.frames = Frame.invoking theMethod args0 :: below0 := rfl
set_option maxRecDepth 65536 in
theorem w_args : argsFit about1.vm theMethod args0 = true := by decide +kernel
set_option maxRecDepth 65536 in
theorem w_heap : heapFits about1 = true := by decide +kernel
set_option maxRecDepth 65536 in
theorem w_runnable : about1.curStatus? = some .runnable := by decide +kernel
set_option maxRecDepth 65536 in
theorem w_alone : about1.alone = true := by decide +kernel
set_option maxRecDepth 65536 in
theorem w_named : about1.methodNamed? x = some theMethod := by decide +kernel
set_option maxRecDepth 65536 in
theorem w_hears : about1.hears theMethod below0 = true := by decide +kernel
set_option maxRecDepth 65536 in
theorem w_ripe : about1.ripe theMethod args0 below0 = true := by decide +kernel
theorem w_running : about1.status = .running := rfl
set_option maxRecDepth 65536 in
theorem w_room : about1.hasRoom e0.platform room_1 = true :=
  launch0.hasRoom_least _ room_1 (by decide +kernel) (by decide +kernel) (by decide +kernel) (by decide +kernel) (by decide +kernel) (by decide +kernel)
theorem allAtoms_all (ts : List Jvm.Cond) (a : Array Jvm.Value) (st : Jvm.State) : (allAtoms ts).before a st = ts.all (fun c => c.before a st) := by
  induction ts with
  | nil => rfl
  | cons c t ih =>
    show (Jvm.Cond.and c (allAtoms t)).before a st = _
    rw [Jvm.Cond.before_and, ih, List.all_cons]
def words1 : List Jvm.Cond := Jvm.Cond.code x code maxLocals ret :: tables_1
/-- a 'code' word, met by the world's own term for the bytes: nothing is compared byte by byte -/
theorem code_word {y : MethodName} {bytes : ByteArray} {mx : Nat} {rt : Option FieldType} {a : Array Value} {s : State} {m : MethodId} {meth : Method} {c : Code} (h1 : s.methodNamed? y = some m) (h2 : s.vm.method? m = some meth) (h3 : meth.code = some c) (h4 : c.code = bytes)
    (h5 : (c.maxLocals == mx && c.exceptionTable.isEmpty && decide (c.maxStack ≤ mostOperands) && decide (meth.sig.returnType = rt) && !meth.locks && decide (parseMethodDescriptor y.desc = some meth.sig)) = true) : (Jvm.Cond.code y bytes mx rt).before a s = true := by
  simp only [Bool.and_eq_true, beq_iff_eq, Bool.not_eq_true', decide_eq_true_eq] at h5
  obtain ⟨⟨⟨⟨⟨g1, g2⟩, g3⟩, g4⟩, g5⟩, g6⟩ := h5
  simp [Cond.before, Cond.holds, Cond.value, h1, h2, h3, h4, g1, g2, g3, g4, g5, g6]
def isCode : Jvm.Cond → Bool
  | .code _ _ _ _ => true
  | _ => false
theorem all_split {L : List Jvm.Cond} {P : Jvm.Cond → Bool} (h1 : L.all (fun c => isCode c || P c) = true) (h2 : ∀ c ∈ L.filter isCode, P c = true) : L.all P = true := by
  refine List.all_eq_true.mpr fun c hc => ?_
  have h := List.all_eq_true.mp h1 c hc
  rcases Bool.eq_false_or_eq_true (isCode c) with hi | hi
  · exact h2 c (List.mem_filter.mpr ⟨hc, hi⟩)
  · simpa [hi] using h
set_option maxRecDepth 65536 in
theorem w_c0 : (Jvm.Cond.code x code maxLocals ret).before args0 about1 = true := code_word (m := ⟨1, 1⟩) (meth := k1m1) (c := k1c1) (by decide +kernel) rfl rfl rfl (by decide +kernel)
set_option maxRecDepth 65536 in
theorem w_c1 : (Jvm.Cond.code ({ cls := "java/lang/Math", name := "max", desc := "(II)I" } : Jvm.MethodName) jdk_29_method_65_code (2 : Nat) (Option.some Jvm.ClassFile.FieldType.int)).before args0 about1 = true := code_word (m := ⟨2, 1⟩) (meth := k2m1) (c := k2c1) (by decide +kernel) rfl rfl rfl (by decide +kernel)
set_option maxRecDepth 65536 in
theorem w_c2 : (Jvm.Cond.code ({ cls := "java/lang/Long", name := "valueOf", desc := "(J)Ljava/lang/Long;" } : Jvm.MethodName) jdk_35_method_24_code (3 : Nat) (Option.some (Jvm.ClassFile.FieldType.object "java/lang/Long"))).before args0 about1 = true := code_word (m := ⟨10, 0⟩) (meth := k10m0) (c := k10c0) (by decide +kernel) rfl rfl rfl (by decide +kernel)
set_option maxRecDepth 65536 in
theorem w_c3 : (Jvm.Cond.code ({ cls := "java/lang/Long", name := "<init>", desc := "(J)V" } : Jvm.MethodName) jdk_35_method_26_code (3 : Nat) (Option.none : Option Jvm.ClassFile.FieldType)).before args0 about1 = true := code_word (m := ⟨10, 1⟩) (meth := k10m1) (c := k10c1) (by decide +kernel) rfl rfl rfl (by decide +kernel)
set_option maxRecDepth 65536 in
theorem w_c4 : (Jvm.Cond.code ({ cls := "java/lang/Number", name := "<init>", desc := "()V" } : Jvm.MethodName) jdk_18_method_1_code (1 : Nat) (Option.none : Option Jvm.ClassFile.FieldType)).before args0 about1 = true := code_word (m := ⟨6, 0⟩) (meth := k6m0) (c := k6c0) (by decide +kernel) rfl rfl rfl (by decide +kernel)
set_option maxRecDepth 65536 in
theorem w_c5 : (Jvm.Cond.code ({ cls := "java/lang/Object", name := "<init>", desc := "()V" } : Jvm.MethodName) object_method_1_code (1 : Nat) (Option.none : Option Jvm.ClassFile.FieldType)).before args0 about1 = true := code_word (m := ⟨0, 0⟩) (meth := k0m0) (c := k0c0) (by decide +kernel) rfl rfl rfl (by decide +kernel)
set_option maxRecDepth 65536 in
theorem w_c6 : (Jvm.Cond.code ({ cls := "com/example/ratatoskr/ratatoskr/cli/Bench$Settings", name := "<init>", desc := "(IIIILjava/lang/Long;I)V" } : Jvm.MethodName) prog_4_method_1_code (7 : Nat) (Option.none : Option Jvm.ClassFile.FieldType)).before args0 about1 = true := code_word (m := ⟨4, 0⟩) (meth := k4m0) (c := k4c0) (by decide +kernel) rfl rfl rfl (by decide +kernel)
set_option maxRecDepth 65536 in
theorem w_c7 : (Jvm.Cond.code ({ cls := "java/lang/Record", name := "<init>", desc := "()V" } : Jvm.MethodName) jdk_30_method_1_code (1 : Nat) (Option.none : Option Jvm.ClassFile.FieldType)).before args0 about1 = true := code_word (m := ⟨3, 0⟩) (meth := k3m0) (c := k3c0) (by decide +kernel) rfl rfl rfl (by decide +kernel)
set_option maxRecDepth 65536 in
theorem w_c8 : (Jvm.Cond.code ({ cls := "com/example/ratatoskr/ratatoskr/cli/Bench$Settings", name := "subscribersAt", desc := "(I)I" } : Jvm.MethodName) prog_4_method_3_code (4 : Nat) (Option.some Jvm.ClassFile.FieldType.int)).before args0 about1 = true := code_word (m := ⟨4, 1⟩) (meth := k4m1) (c := k4c1) (by decide +kernel) rfl rfl rfl (by decide +kernel)
set_option maxRecDepth 65536 in
theorem w_c9 : (Jvm.Cond.code ({ cls := "com/example/ratatoskr/ratatoskr/cli/SettingsSubscribersAtPinLaw", name := "expected", desc := "(III)J" } : Jvm.MethodName) method_3_code (7 : Nat) (Option.some Jvm.ClassFile.FieldType.long)).before args0 about1 = true := code_word (m := ⟨1, 2⟩) (meth := k1m2) (c := k1c2) (by decide +kernel) rfl rfl rfl (by decide +kernel)
def codes1 : List Jvm.Cond := [Jvm.Cond.code x code maxLocals ret, Jvm.Cond.code ({ cls := "java/lang/Math", name := "max", desc := "(II)I" } : Jvm.MethodName) jdk_29_method_65_code (2 : Nat) (Option.some Jvm.ClassFile.FieldType.int), Jvm.Cond.code ({ cls := "java/lang/Long", name := "valueOf", desc := "(J)Ljava/lang/Long;" } : Jvm.MethodName) jdk_35_method_24_code (3 : Nat) (Option.some (Jvm.ClassFile.FieldType.object "java/lang/Long")), Jvm.Cond.code ({ cls := "java/lang/Long", name := "<init>", desc := "(J)V" } : Jvm.MethodName) jdk_35_method_26_code (3 : Nat) (Option.none : Option Jvm.ClassFile.FieldType), Jvm.Cond.code ({ cls := "java/lang/Number", name := "<init>", desc := "()V" } : Jvm.MethodName) jdk_18_method_1_code (1 : Nat) (Option.none : Option Jvm.ClassFile.FieldType), Jvm.Cond.code ({ cls := "java/lang/Object", name := "<init>", desc := "()V" } : Jvm.MethodName) object_method_1_code (1 : Nat) (Option.none : Option Jvm.ClassFile.FieldType), Jvm.Cond.code ({ cls := "com/example/ratatoskr/ratatoskr/cli/Bench$Settings", name := "<init>", desc := "(IIIILjava/lang/Long;I)V" } : Jvm.MethodName) prog_4_method_1_code (7 : Nat) (Option.none : Option Jvm.ClassFile.FieldType), Jvm.Cond.code ({ cls := "java/lang/Record", name := "<init>", desc := "()V" } : Jvm.MethodName) jdk_30_method_1_code (1 : Nat) (Option.none : Option Jvm.ClassFile.FieldType), Jvm.Cond.code ({ cls := "com/example/ratatoskr/ratatoskr/cli/Bench$Settings", name := "subscribersAt", desc := "(I)I" } : Jvm.MethodName) prog_4_method_3_code (4 : Nat) (Option.some Jvm.ClassFile.FieldType.int), Jvm.Cond.code ({ cls := "com/example/ratatoskr/ratatoskr/cli/SettingsSubscribersAtPinLaw", name := "expected", desc := "(III)J" } : Jvm.MethodName) method_3_code (7 : Nat) (Option.some Jvm.ClassFile.FieldType.long)]
set_option maxRecDepth 65536 in
theorem codes_eq : words1.filter isCode = codes1 := rfl
theorem w_codes : ∀ c ∈ words1.filter isCode, c.before args0 about1 = true := by
  rw [codes_eq]
  intro c hc
  simp only [codes1, List.mem_cons, List.not_mem_nil, or_false] at hc
  rcases hc with rfl | rfl | rfl | rfl | rfl | rfl | rfl | rfl | rfl | rfl
  · exact w_c0
  · exact w_c1
  · exact w_c2
  · exact w_c3
  · exact w_c4
  · exact w_c5
  · exact w_c6
  · exact w_c7
  · exact w_c8
  · exact w_c9
set_option maxRecDepth 65536 in
theorem w_t1 : (words1.take 24).all (fun c => isCode c || c.before args0 about1) = true := by decide +kernel
set_option maxRecDepth 65536 in
theorem w_t2 : ((words1.drop 24).take 24).all (fun c => isCode c || c.before args0 about1) = true := by decide +kernel
set_option maxRecDepth 65536 in
theorem w_t3 : ((words1.drop 24).drop 24).all (fun c => isCode c || c.before args0 about1) = true := by decide +kernel
theorem w_tables : (allAtoms (Jvm.Cond.code x code maxLocals ret :: tables_1)).before args0 about1 = true := by
  rw [allAtoms_all]
  show words1.all (fun c => c.before args0 about1) = true
  refine all_split ?_ w_codes
  rw [← List.take_append_drop 24 words1, List.all_append, w_t1, ← List.take_append_drop 24 (words1.drop 24), List.all_append, w_t2, w_t3]
  rfl
set_option maxRecDepth 65536 in
theorem w_rest : rest_1_c.before args0 about1 = true := by decide +kernel
set_option maxRecDepth 65536 in
theorem w_case : (Jvm.Cond.and given_1 narrow_1).before args0 about1 = true := by decide +kernel
theorem w_applies : (headSpec (Jvm.Cond.code x code maxLocals ret :: tables_1) room_1).applies x e0.platform about1 = true :=
  (Spec.applies_iff w_frames).mpr ⟨w_running, w_runnable, w_alone, w_named, w_hears, w_ripe, w_room, w_tables⟩
theorem atStart : AtStart classFile x code maxLocals ret World_1 tables_1 room_1 Calls_1 rest_1 Pre_1 launch0 p0 e0 about1 theMethod args0 below0 :=
  ⟨lists_1, trivial, launch0.admits_env _ _ _, launch0.least_env, fairChoices_fair.cas, fairChoices_fair.clock, w_frames, w_args, w_heap, w_applies, trivial, w_rest, w_case⟩
end start1
theorem witness_1 : WitnessClaimed_1 := ⟨start1.p0, start1.e0, start1.about1, start1.theMethod, start1.args0, start1.below0, start1.atStart⟩
end Jvm.Pilot.@@N@@
