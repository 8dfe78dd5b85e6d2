import JvmDerived
import JvmDerived.Pilot.@@N@@Statement
import JvmDerived.Pilot.@@N@@Code
set_option linter.unusedVariables false
set_option linter.unusedSimpArgs false
namespace Jvm.RoadKit
open Sem ClassFile Op Lib Jvm.Stand Jvm.Free Jvm.LawKit
section New
variable {p : Program} {l : Launch} {e : Env} {R : Room} {s : State} {m : MethodId} {args : Array Value} {below : List Frame} {meth : Method} {c : Code} {T : State} {locs : List Loc} {cells slots : Nat}
theorem retI (X : Stand p l e R s m args below meth c T locs cells slots) (hx : p.tables.exec = Jvm.exec) {pc : Nat} {Ls : Array Slot} {z : Int32} {rest : List Value} (hret : meth.sig.returnType = some .int) (hd : decode c.code pc = .ok (.ireturn, 1)) {fs : List Frame}
    (hl : ∀ (f : JFrame) (acts : List Action), f.method = m → f.locked = none → f.entered = [] → (doReturn e (T.setTop f) acts (some (.int z))).1 = T.setFrames fs) : Steps p.tables e below (T.setTop (mkF m pc Ls (.int z :: rest))) (T.setFrames fs) :=
  retOut X hx hret rfl (Or.inl ⟨rfl, Or.inl rfl, z, rfl⟩) hd hl
end New
end Jvm.RoadKit
namespace Jvm.Pilot.@@N@@
open Jvm Jvm.ClassFile Sem Op Lib Jvm.Free Jvm.Stand Jvm.LawKit Jvm.RoadKit Bundle Jvm.Pilot.@@N@@.Jvm.D
theorem own_selpriv {s : State} {args : Array Value} {y : MethodName} {n : Nat} (hins : (Jvm.Cond.instantiable y.cls n).before args s = true) (hpriv : (Jvm.Cond.privateMethod y).before args s = true) (hinst : (Jvm.Cond.instanceMethod y).before args s = true) (hy : y.cls ≠ "java/lang/invoke/MethodHandle" ∧ y.cls ≠ "java/lang/invoke/VarHandle") :
    (Jvm.Cond.selects y.cls y y).before args s = true := by
  obtain ⟨c, k, hc, hk, -, hniab, -, -⟩ := Cond.instantiable_spec hins
  have hni : k.isInterface = false := (Bool.or_eq_false_iff.mp hniab).1
  obtain ⟨mk, methM, hnamed, hmethM, -, -⟩ := Cond.instanceMethod_spec hinst
  have hfound : s.methodFound? y.cls y.name y.desc = some mk := State.methodFound?_of_named hnamed hy
  have hcls : mk.cls = c := Option.some.inj ((findClass_of_methodNamed hnamed).symm.trans hc)
  have hsel : selectMethod {} s.vm c mk = .method mk := selectMethod_private hmethM (Cond.privateMethod_at hpriv mk methM hnamed hmethM)
  simp only [Cond.before, Cond.holds, Cond.value, hc, hfound, hnamed, hsel, hcls, hk]
  simp; exact hni
theorem own_nsE {Z : State} {h : Heap} {a : Addr} {C : String} (F : Exa Z h a C) : ∀ c : Cell, h[a]? = some c → c.vm.isStatics = false := by
  obtain ⟨c, k, h1, -, -, h4, -⟩ := F
  intro c' hc; cases h1.symm.trans hc; exact h4
theorem own_nsV {Z : State} {h : Heap} {a : Addr} {k : ClassId} {ty : FieldType} {z : Int32} {vs : List Value} {dv : Value} (F : Arv Z h a k ty z vs dv) : ∀ c : Cell, h[a]? = some c → c.vm.isStatics = false := by
  obtain ⟨c, A, -⟩ := F
  intro c' hc; cases A.1.symm.trans hc; exact A.plain
theorem own_stakeep {Z : State} {h h' : Heap} {C n d : String} {v : Value} {ws : List Addr} (F : Sta Z h C n d v) (K : Keep h h' ws) (q : ∀ x ∈ ws, ∀ c : Cell, h[x]? = some c → c.vm.isStatics = false) : Sta Z h' C n d v := by
  obtain ⟨cf, i, k, f, st, cell, h1, h2, h3, h4, h5, h6, h7⟩ := F
  refine ⟨cf, i, k, f, st, cell, h1, h2, h3, h4, K.2.1 _ _ h5 (fun hm => ?_), h6, h7⟩
  rw [q st hm cell h5] at h6; cases h6
theorem own_ex {args : Array Value} {s : State} {t : Term} {C : String} (h : (Jvm.Cond.exactly t C).value args s none s [] = some true) : ∃ a, t.eval args s none [] s = some (.ref a) ∧ Exa s s.heap a C := by
  obtain ⟨a, e1⟩ := exa_v h; exact ⟨a, e1, Exa.start e1 h⟩
theorem own_evI {args : Array Value} {s : State} {t : Term} {z : Int32} (h : (Jvm.Cond.eq t (.int z)).value args s none s [] = some true) : t.eval args s none [] s = some (.int z) := by
  cases hv : t.eval args s none [] s with
  | none => simp [Cond.value, hv] at h
  | some x => cases x <;> simp [Cond.value, Term.eval, hv] at h ⊢; exact h
theorem own_evJ {args : Array Value} {s : State} {t : Term} {z : Int64} (h : (Jvm.Cond.eq t (.long z)).value args s none s [] = some true) : t.eval args s none [] s = some (.long z) := by
  cases hv : t.eval args s none [] s with
  | none => simp [Cond.value, hv] at h
  | some x => cases x <;> simp [Cond.value, Term.eval, hv] at h ⊢; exact h
theorem own_fldV {args : Array Value} {s : State} {t : Term} {a : Addr} {C n d : String} {v : Value} (ev : t.eval args s none [] s = some (.ref a)) (h : (Term.field t C n d).eval args s none [] s = some v) : Fld s s.heap a C n d v := by
  refine Fld.start ?_
  rw [← fld_at (args := args) (first := s) (o := none) (idx := []) ev]; exact h
theorem own_lt (a b : Int32) : a < b ↔ a.toInt < b.toInt := Int32.lt_iff_toInt_lt
theorem own_le (a b : Int32) : a ≤ b ↔ a.toInt ≤ b.toInt := Int32.le_iff_toInt_le
theorem own_eqi (a b : Int32) : a = b ↔ a.toInt = b.toInt := Int32.toInt_inj.symm
theorem own_ltL (a b : Int64) : a < b ↔ a.toInt < b.toInt := Int64.lt_iff_toInt_lt
theorem own_eqL (a b : Int64) : a = b ↔ a.toInt = b.toInt := Int64.toInt_inj.symm
theorem own_evR {args : Array Value} {s : State} {t u : Term} {a : Addr} (h : (Jvm.Cond.eq t u).value args s none s [] = some true) (hu : u.eval args s none [] s = some (.ref a)) : t.eval args s none [] s = some (.ref a) := by
  cases hv : t.eval args s none [] s with
  | none => simp [Cond.value, hv] at h
  | some x => cases x <;> simp [Cond.value, hu, hv] at h ⊢; exact h
theorem own_len {args : Array Value} {s : State} {t : Term} {a : Addr} {cl : Cell} {z : Int32} (ev : t.eval args s none [] s = some (.ref a)) (hc : s.arrayAt? a = some cl) (h : (Term.length t).eval args s none [] s = some (.int z)) : cl.slots.size < 2 ^ 31 ∧ cl.slots.size.toInt32 = z := by
  by_cases q : cl.slots.size < 2147483648
  · simp [Term.eval, ev, hc, q] at h; exact ⟨q, h⟩
  · simp [Term.eval, ev, hc, q] at h
theorem own_pos (x : Int32) : 0 ≤ (x &&& (2147483647 : Int32)).toInt ∧ (x &&& (2147483647 : Int32)).toInt < 2147483648 := by
  have h := c_mask x 2147483647 31 (by decide) (by decide)
  rw [h]; omega
theorem own_mod5 (x : Int32) : (x &&& (2147483647 : Int32)) % (5 : Int32) = (0 : Int32) ∨ (x &&& (2147483647 : Int32)) % (5 : Int32) = (1 : Int32) ∨ (x &&& (2147483647 : Int32)) % (5 : Int32) = (2 : Int32) ∨ (x &&& (2147483647 : Int32)) % (5 : Int32) = (3 : Int32) ∨ (x &&& (2147483647 : Int32)) % (5 : Int32) = (4 : Int32) := by
  have h := own_pos x
  have q := (c_irem (x &&& (2147483647 : Int32)) (5 : Int32) 5 rfl).1 h.1
  simp only [own_eqi]
  rw [q]
  rw [show (0 : Int32).toInt = 0 from rfl, show (1 : Int32).toInt = 1 from rfl, show (2 : Int32).toInt = 2 from rfl, show (3 : Int32).toInt = 3 from rfl, show (4 : Int32).toInt = 4 from rfl]
  omega

theorem pn_0 : plainName "com/example/chop/chop/compiler/Mark" = true := by first | (simp [plainName, overriddenIn]; done) | decide +kernel
theorem d1_0 : decode prog_1_method_4_code 0 = .ok (.aload_n 0, 1) := by decide +kernel
theorem d1_1 : decode prog_1_method_4_code 1 = .ok (.getfield 38, 3) := by decide +kernel
theorem d1_4 : decode prog_1_method_4_code 4 = .ok (.areturn, 1) := by decide +kernel
theorem ef_1 (m : MethodId) (a1_0 : Addr) : entryFrame m #[(.ref a1_0)] 1 = mkF m 0 #[.val (.ref a1_0)] [] := by first | (simp [entryFrame, mkF, argsToLocals, Value.category]; done) | rfl
def Q1 (Z : State) (a1_0 : Addr) (fl : Addr) (h0 : Heap) (n0 : Nat) (v : Option Value) (h : Heap) (L : List Loc) : Prop := v = some (.ref fl) ∧ Fr n0 L ∧ h = h0
set_option maxRecDepth 65536 in
set_option maxHeartbeats 40000000 in
theorem rm1 (l : Launch) (Z : State) (a0 : Array Value) (hw : ∀ d ∈ tables_1, d.before a0 Z = true) (ws : List Jvm.Cond) (a1_0 : Addr) (fl : Addr) (h0 : Heap) (n0 : Nat) (Z0 : n0 ≤ h0.size) (Ff : Fld Z h0 a1_0 "com/example/chop/chop/compiler/Mark" "flag" "Ljava/lang/String;" (.ref fl)) :
    MetFree l (⟨"com/example/chop/chop/compiler/Mark", "flag", "()Ljava/lang/String;"⟩ : MethodName) (head1 (Jvm.Cond.code (⟨"com/example/chop/chop/compiler/Mark", "flag", "()Ljava/lang/String;"⟩ : MethodName) prog_1_method_4_code 1 (some (.object "java/lang/String")) :: ws) ({ frames := 0, cells := 0, slots := 0, locals := 0 } : Room)) (fun a U => a = #[(.ref a1_0)] ∧ Z.Warmed39 U.vm ∧ U.heap = h0) (fun _ _ _ _ _ => True) (fun _ U o U' => ∃ v L, o = .returned v ∧ Q1 Z a1_0 fl h0 n0 v U'.heap L ∧ FrameEnd U o U' L ({ frames := 0, cells := 0, slots := 0, locals := 0 } : Room).cells ({ frames := 0, cells := 0, slots := 0, locals := 0 } : Room).slots) := by
  refine MetFree.of_bodySF (plainFor_of_name pn_0) hisR ?_
  intro p e s m args below meth c s₁ Bd hml0 hP hK
  obtain ⟨rfl, hZ, hh⟩ := hP
  have hx := Bd.exec
  have hby := Bd.bytes
  have hml : c.maxLocals = 1 := hml0
  have hown : s.vm.findClass "com/example/chop/chop/compiler/Mark" = some m.cls := findClass_of_methodNamed Bd.named
  have hnm := (name_of_methodNamed Bd.named Bd.method).1
  have X0 : Stand p l e ({ frames := 0, cells := 0, slots := 0, locals := 0 } : Room) s m #[(.ref a1_0)] below meth c s₁ [] 0 0 := Stand.of_body Bd
  have e0 : s₁.heap = h0 := by rw [← hh, Bd.state]; rfl
  have N0 := Fr.nil n0
  have pre0 : ∀ t, Steps p.tables e below (s₁.setTop (mkF m 0 #[.val (.ref a1_0)] [])) t → Steps p.tables e below (s₁.setTop (entryFrame m #[(.ref a1_0)] 1)) t := fun t k => castTop (ef_1 m a1_0) k
  obtain ⟨T1, X1, e1, st1⟩ := getF X0 hx hZ hown (host := "") (Or.inl (hw _ (List.mem_of_getElem? (i := 22) rfl))) Via.refl e0 Ff (g := (mkF m 1 #[.val (.ref a1_0)] [(.ref a1_0)])) rfl rfl (hb hby d1_1)
  have k2 : ∀ t, Steps p.tables e below (T1.setTop (mkF m 4 #[.val (.ref a1_0)] [(.ref fl)])) t → Steps p.tables e below (s₁.setTop (entryFrame m #[(.ref a1_0)] 1)) t := by
    intro t k
    refine pre0 t ?_
    show Steps p.tables e below (s₁.setTop (mkF m 0 #[.val (.ref a1_0)] [])) _
    refine XS.aloadN X0.here hx rfl (hb hby d1_0) rfl rfl ?_
    show Steps p.tables e below (s₁.setTop (mkF m 1 #[.val (.ref a1_0)] [(.ref a1_0)])) _
    refine st1 _ ?_
    exact k
  obtain ⟨fs, hr, hrun, hended, hW, hsame⟩ := X1.leave (v := some (.ref fl)) (fun h => by rw [Bd.returns] at h; cases h)
  refine ⟨_, _, k2 _ ?_, hrun, hended, _, _, rfl, ?_, ⟨_, rfl⟩, hW, hsame.mono (by decide) (by decide)⟩
  · exact retOut X1 hx Bd.returns rfl (Or.inr (Or.inr (Or.inr (Or.inr ⟨rfl, rfl, rfl⟩)))) (hb hby d1_4) hr
  · show Q1 Z a1_0 fl h0 n0 _ T1.heap _
    rw [e1]
    exact ⟨rfl, N0, rfl⟩
theorem pn_1 : plainName "com/example/chop/chop/compiler/MarkIsWaitingPinLaw" = true := by first | (simp [plainName, overriddenIn]; done) | decide +kernel
theorem d2_0 : decode method_2_code 0 = .ok (.iload_n 0, 1) := by decide +kernel
theorem d2_1 : decode method_2_code 1 = .ok (.ifCond .ne 7, 3) := by decide +kernel
theorem d2_4 : decode method_2_code 4 = .ok (.getstatic 7, 3) := by decide +kernel
theorem d2_7 : decode method_2_code 7 = .ok (.areturn, 1) := by decide +kernel
theorem ef_2 (m : MethodId)  : entryFrame m #[(.int (0 : Int32))] 1 = mkF m 0 #[.val (.int (0 : Int32))] [] := by first | (simp [entryFrame, mkF, argsToLocals, Value.category]; done) | rfl
def Q2 (Z : State) (u_INACTIVE : Addr) (h0 : Heap) (n0 : Nat) (v : Option Value) (h : Heap) (L : List Loc) : Prop := v = some (.ref u_INACTIVE) ∧ Fr n0 L ∧ h = h0
set_option maxRecDepth 65536 in
set_option maxHeartbeats 40000000 in
theorem rm2 (l : Launch) (Z : State) (a0 : Array Value) (hw : ∀ d ∈ tables_1, d.before a0 Z = true) (ws : List Jvm.Cond) (u_INACTIVE : Addr) (h0 : Heap) (n0 : Nat) (Z0 : n0 ≤ h0.size) (S_INACTIVE : Sta Z h0 "com/example/chop/chop/compiler/Mark" "INACTIVE" "Lcom/example/chop/chop/compiler/Mark;" (.ref u_INACTIVE)) :
    MetFree l (⟨"com/example/chop/chop/compiler/MarkIsWaitingPinLaw", "pick", "(I)Lcom/example/chop/chop/compiler/Mark;"⟩ : MethodName) (head1 (Jvm.Cond.code (⟨"com/example/chop/chop/compiler/MarkIsWaitingPinLaw", "pick", "(I)Lcom/example/chop/chop/compiler/Mark;"⟩ : MethodName) method_2_code 1 (some (.object "com/example/chop/chop/compiler/Mark")) :: ws) ({ frames := 0, cells := 0, slots := 0, locals := 0 } : Room)) (fun a U => a = #[(.int (0 : Int32))] ∧ Z.Warmed39 U.vm ∧ U.heap = h0) (fun _ _ _ _ _ => True) (fun _ U o U' => ∃ v L, o = .returned v ∧ Q2 Z u_INACTIVE h0 n0 v U'.heap L ∧ FrameEnd U o U' L ({ frames := 0, cells := 0, slots := 0, locals := 0 } : Room).cells ({ frames := 0, cells := 0, slots := 0, locals := 0 } : Room).slots) := by
  refine MetFree.of_bodySF (plainFor_of_name pn_1) hisR ?_
  intro p e s m args below meth c s₁ Bd hml0 hP hK
  obtain ⟨rfl, hZ, hh⟩ := hP
  have hx := Bd.exec
  have hby := Bd.bytes
  have hml : c.maxLocals = 1 := hml0
  have hown : s.vm.findClass "com/example/chop/chop/compiler/MarkIsWaitingPinLaw" = some m.cls := findClass_of_methodNamed Bd.named
  have hnm := (name_of_methodNamed Bd.named Bd.method).1
  have X0 : Stand p l e ({ frames := 0, cells := 0, slots := 0, locals := 0 } : Room) s m #[(.int (0 : Int32))] below meth c s₁ [] 0 0 := Stand.of_body Bd
  have e0 : s₁.heap = h0 := by rw [← hh, Bd.state]; rfl
  have N0 := Fr.nil n0
  have pre0 : ∀ t, Steps p.tables e below (s₁.setTop (mkF m 0 #[.val (.int (0 : Int32))] [])) t → Steps p.tables e below (s₁.setTop (entryFrame m #[(.int (0 : Int32))] 1)) t := fun t k => castTop (ef_2 m ) k
  obtain ⟨T1, X1, e1, st1⟩ := getS2 X0 hx hZ hown (host := "") (Or.inl (hw _ (List.mem_of_getElem? (i := 5) rfl))) Via.refl e0 S_INACTIVE (g := (mkF m 4 #[.val (.int (0 : Int32))] [])) rfl (hb hby d2_4)
  have k2 : ∀ t, Steps p.tables e below (T1.setTop (mkF m 7 #[.val (.int (0 : Int32))] [(.ref u_INACTIVE)])) t → Steps p.tables e below (s₁.setTop (entryFrame m #[(.int (0 : Int32))] 1)) t := by
    intro t k
    refine pre0 t ?_
    show Steps p.tables e below (s₁.setTop (mkF m 0 #[.val (.int (0 : Int32))] [])) _
    refine XS.iloadN X0.here hx rfl (hb hby d2_0) rfl ?_
    show Steps p.tables e below (s₁.setTop (mkF m 1 #[.val (.int (0 : Int32))] [(.int (0 : Int32))])) _
    refine XS.ifNo X0.here hx rfl (hb hby d2_1) rfl ((if0 _ _).trans (teq (by decide : (0 : Int32) = (0 : Int32))).2) ?_
    show Steps p.tables e below (s₁.setTop (mkF m 4 #[.val (.int (0 : Int32))] [])) _
    refine st1 _ ?_
    exact k
  obtain ⟨fs, hr, hrun, hended, hW, hsame⟩ := X1.leave (v := some (.ref u_INACTIVE)) (fun h => by rw [Bd.returns] at h; cases h)
  refine ⟨_, _, k2 _ ?_, hrun, hended, _, _, rfl, ?_, ⟨_, rfl⟩, hW, hsame.mono (by decide) (by decide)⟩
  · exact retOut X1 hx Bd.returns rfl (Or.inr (Or.inr (Or.inr (Or.inr ⟨rfl, rfl, rfl⟩)))) (hb hby d2_7) hr
  · show Q2 Z u_INACTIVE h0 n0 _ T1.heap _
    rw [e1]
    exact ⟨rfl, N0, rfl⟩
theorem d3_0 : decode prog_1_method_6_code 0 = .ok (.aload_n 0, 1) := by decide +kernel
theorem d3_1 : decode prog_1_method_6_code 1 = .ok (.getstatic 13, 3) := by decide +kernel
theorem d3_4 : decode prog_1_method_6_code 4 = .ok (.if_acmp .eq 10, 3) := by decide +kernel
theorem d3_7 : decode prog_1_method_6_code 7 = .ok (.aload_n 0, 1) := by decide +kernel
theorem d3_8 : decode prog_1_method_6_code 8 = .ok (.getstatic 16, 3) := by decide +kernel
theorem d3_11 : decode prog_1_method_6_code 11 = .ok (.if_acmp .ne 7, 3) := by decide +kernel
theorem d3_18 : decode prog_1_method_6_code 18 = .ok (.iconst 0, 1) := by decide +kernel
theorem d3_19 : decode prog_1_method_6_code 19 = .ok (.ireturn, 1) := by decide +kernel
theorem ef_3 (m : MethodId) (u_INACTIVE : Addr) : entryFrame m #[(.ref u_INACTIVE)] 1 = mkF m 0 #[.val (.ref u_INACTIVE)] [] := by first | (simp [entryFrame, mkF, argsToLocals, Value.category]; done) | rfl
def Q3 (Z : State) (u_INACTIVE : Addr) (u_GREATER : Addr) (u_GREATER_EQUAL : Addr) (h0 : Heap) (n0 : Nat) (v : Option Value) (h : Heap) (L : List Loc) : Prop := v = some (.int (0 : Int32)) ∧ Fr n0 L ∧ h = h0
set_option maxRecDepth 65536 in
set_option maxHeartbeats 40000000 in
theorem rm3 (l : Launch) (Z : State) (a0 : Array Value) (hw : ∀ d ∈ tables_1, d.before a0 Z = true) (ws : List Jvm.Cond) (u_INACTIVE : Addr) (u_GREATER : Addr) (u_GREATER_EQUAL : Addr) (h0 : Heap) (n0 : Nat) (Z0 : n0 ≤ h0.size) (S_GREATER : Sta Z h0 "com/example/chop/chop/compiler/Mark" "GREATER" "Lcom/example/chop/chop/compiler/Mark;" (.ref u_GREATER)) (S_GREATER_EQUAL : Sta Z h0 "com/example/chop/chop/compiler/Mark" "GREATER_EQUAL" "Lcom/example/chop/chop/compiler/Mark;" (.ref u_GREATER_EQUAL)) (hne_GREATER : u_INACTIVE ≠ u_GREATER) (hne_GREATER_EQUAL : u_INACTIVE ≠ u_GREATER_EQUAL) :
    MetFree l (⟨"com/example/chop/chop/compiler/Mark", "isWaiting", "()Z"⟩ : MethodName) (head1 (Jvm.Cond.code (⟨"com/example/chop/chop/compiler/Mark", "isWaiting", "()Z"⟩ : MethodName) prog_1_method_6_code 1 (some .boolean) :: ws) ({ frames := 0, cells := 0, slots := 0, locals := 0 } : Room)) (fun a U => a = #[(.ref u_INACTIVE)] ∧ Z.Warmed39 U.vm ∧ U.heap = h0) (fun _ _ _ _ _ => True) (fun _ U o U' => ∃ v L, o = .returned v ∧ Q3 Z u_INACTIVE u_GREATER u_GREATER_EQUAL h0 n0 v U'.heap L ∧ FrameEnd U o U' L ({ frames := 0, cells := 0, slots := 0, locals := 0 } : Room).cells ({ frames := 0, cells := 0, slots := 0, locals := 0 } : Room).slots) := by
  refine MetFree.of_bodySF (plainFor_of_name pn_0) hisR ?_
  intro p e s m args below meth c s₁ Bd hml0 hP hK
  obtain ⟨rfl, hZ, hh⟩ := hP
  have hx := Bd.exec
  have hby := Bd.bytes
  have hml : c.maxLocals = 1 := hml0
  have hown : s.vm.findClass "com/example/chop/chop/compiler/Mark" = some m.cls := findClass_of_methodNamed Bd.named
  have hnm := (name_of_methodNamed Bd.named Bd.method).1
  have X0 : Stand p l e ({ frames := 0, cells := 0, slots := 0, locals := 0 } : Room) s m #[(.ref u_INACTIVE)] below meth c s₁ [] 0 0 := Stand.of_body Bd
  have e0 : s₁.heap = h0 := by rw [← hh, Bd.state]; rfl
  have N0 := Fr.nil n0
  have pre0 : ∀ t, Steps p.tables e below (s₁.setTop (mkF m 0 #[.val (.ref u_INACTIVE)] [])) t → Steps p.tables e below (s₁.setTop (entryFrame m #[(.ref u_INACTIVE)] 1)) t := fun t k => castTop (ef_3 m u_INACTIVE) k
  obtain ⟨T1, X1, e1, st1⟩ := getS2 X0 hx hZ hown (host := "") (Or.inl (hw _ (List.mem_of_getElem? (i := 13) rfl))) Via.refl e0 S_GREATER (g := (mkF m 1 #[.val (.ref u_INACTIVE)] [(.ref u_INACTIVE)])) rfl (hb hby d3_1)
  obtain ⟨T2, X2, e2, st2⟩ := getS2 X1 hx hZ hown (host := "") (Or.inl (hw _ (List.mem_of_getElem? (i := 15) rfl))) Via.refl e1 S_GREATER_EQUAL (g := (mkF m 8 #[.val (.ref u_INACTIVE)] [(.ref u_INACTIVE)])) rfl (hb hby d3_8)
  have k3 : ∀ t, Steps p.tables e below (T2.setTop (mkF m 19 #[.val (.ref u_INACTIVE)] [(.int (0 : Int32))])) t → Steps p.tables e below (s₁.setTop (entryFrame m #[(.ref u_INACTIVE)] 1)) t := by
    intro t k
    refine pre0 t ?_
    show Steps p.tables e below (s₁.setTop (mkF m 0 #[.val (.ref u_INACTIVE)] [])) _
    refine XS.aloadN X0.here hx rfl (hb hby d3_0) rfl rfl ?_
    show Steps p.tables e below (s₁.setTop (mkF m 1 #[.val (.ref u_INACTIVE)] [(.ref u_INACTIVE)])) _
    refine st1 _ ?_
    show Steps p.tables e below (T1.setTop (mkF m 4 #[.val (.ref u_INACTIVE)] [(.ref u_GREATER), (.ref u_INACTIVE)])) _
    refine Jvm.RoadKit.acmp (g := (mkF m 4 #[.val (.ref u_INACTIVE)] [(.ref u_GREATER), (.ref u_INACTIVE)])) X1 hx rfl rfl rfl (pc0 := 4) (pc' := 7) (same := false) rfl (hb hby d3_4) rfl (decide_eq_false fun q => hne_GREATER (Value.ref.inj q)) (by decide) (by decide) ?_
    show Steps p.tables e below (T1.setTop (mkF m 7 #[.val (.ref u_INACTIVE)] [])) _
    refine XS.aloadN X1.here hx rfl (hb hby d3_7) rfl rfl ?_
    show Steps p.tables e below (T1.setTop (mkF m 8 #[.val (.ref u_INACTIVE)] [(.ref u_INACTIVE)])) _
    refine st2 _ ?_
    show Steps p.tables e below (T2.setTop (mkF m 11 #[.val (.ref u_INACTIVE)] [(.ref u_GREATER_EQUAL), (.ref u_INACTIVE)])) _
    refine Jvm.RoadKit.acmp (g := (mkF m 11 #[.val (.ref u_INACTIVE)] [(.ref u_GREATER_EQUAL), (.ref u_INACTIVE)])) X2 hx rfl rfl rfl (pc0 := 11) (pc' := 18) (same := false) rfl (hb hby d3_11) rfl (decide_eq_false fun q => hne_GREATER_EQUAL (Value.ref.inj q)) (by decide) (by decide) ?_
    show Steps p.tables e below (T2.setTop (mkF m 18 #[.val (.ref u_INACTIVE)] [])) _
    refine XS.iconst X2.here hx rfl (hb hby d3_18) ?_
    exact k
  obtain ⟨fs, hr, hrun, hended, hW, hsame⟩ := X2.leave (v := some (.int (0 : Int32))) (fun h => by rw [Bd.returns] at h; cases h)
  refine ⟨_, _, k3 _ ?_, hrun, hended, _, _, rfl, ?_, ⟨_, rfl⟩, hW, hsame.mono (by decide) (by decide)⟩
  · exact retN X2 hx (t := .boolean) Bd.returns (by simp) (hb hby d3_19) hr
  · show Q3 Z u_INACTIVE u_GREATER u_GREATER_EQUAL h0 n0 _ T2.heap _
    rw [e2]
    exact ⟨rfl, N0, rfl⟩
theorem d4_0 : decode prog_1_method_5_code 0 = .ok (.aload_n 0, 1) := by decide +kernel
theorem d4_1 : decode prog_1_method_5_code 1 = .ok (.getstatic 3, 3) := by decide +kernel
theorem d4_4 : decode prog_1_method_5_code 4 = .ok (.if_acmp .eq 7, 3) := by decide +kernel
theorem d4_11 : decode prog_1_method_5_code 11 = .ok (.iconst 0, 1) := by decide +kernel
theorem d4_12 : decode prog_1_method_5_code 12 = .ok (.ireturn, 1) := by decide +kernel
theorem ef_4 (m : MethodId) (u_INACTIVE : Addr) : entryFrame m #[(.ref u_INACTIVE)] 1 = mkF m 0 #[.val (.ref u_INACTIVE)] [] := by first | (simp [entryFrame, mkF, argsToLocals, Value.category]; done) | rfl
def Q4 (Z : State) (u_INACTIVE : Addr) (h0 : Heap) (n0 : Nat) (v : Option Value) (h : Heap) (L : List Loc) : Prop := v = some (.int (0 : Int32)) ∧ Fr n0 L ∧ h = h0
set_option maxRecDepth 65536 in
set_option maxHeartbeats 40000000 in
theorem rm4 (l : Launch) (Z : State) (a0 : Array Value) (hw : ∀ d ∈ tables_1, d.before a0 Z = true) (ws : List Jvm.Cond) (u_INACTIVE : Addr) (h0 : Heap) (n0 : Nat) (Z0 : n0 ≤ h0.size) (S_INACTIVE : Sta Z h0 "com/example/chop/chop/compiler/Mark" "INACTIVE" "Lcom/example/chop/chop/compiler/Mark;" (.ref u_INACTIVE)) :
    MetFree l (⟨"com/example/chop/chop/compiler/Mark", "isActive", "()Z"⟩ : MethodName) (head1 (Jvm.Cond.code (⟨"com/example/chop/chop/compiler/Mark", "isActive", "()Z"⟩ : MethodName) prog_1_method_5_code 1 (some .boolean) :: ws) ({ frames := 0, cells := 0, slots := 0, locals := 0 } : Room)) (fun a U => a = #[(.ref u_INACTIVE)] ∧ Z.Warmed39 U.vm ∧ U.heap = h0) (fun _ _ _ _ _ => True) (fun _ U o U' => ∃ v L, o = .returned v ∧ Q4 Z u_INACTIVE h0 n0 v U'.heap L ∧ FrameEnd U o U' L ({ frames := 0, cells := 0, slots := 0, locals := 0 } : Room).cells ({ frames := 0, cells := 0, slots := 0, locals := 0 } : Room).slots) := by
  refine MetFree.of_bodySF (plainFor_of_name pn_0) hisR ?_
  intro p e s m args below meth c s₁ Bd hml0 hP hK
  obtain ⟨rfl, hZ, hh⟩ := hP
  have hx := Bd.exec
  have hby := Bd.bytes
  have hml : c.maxLocals = 1 := hml0
  have hown : s.vm.findClass "com/example/chop/chop/compiler/Mark" = some m.cls := findClass_of_methodNamed Bd.named
  have hnm := (name_of_methodNamed Bd.named Bd.method).1
  have X0 : Stand p l e ({ frames := 0, cells := 0, slots := 0, locals := 0 } : Room) s m #[(.ref u_INACTIVE)] below meth c s₁ [] 0 0 := Stand.of_body Bd
  have e0 : s₁.heap = h0 := by rw [← hh, Bd.state]; rfl
  have N0 := Fr.nil n0
  have pre0 : ∀ t, Steps p.tables e below (s₁.setTop (mkF m 0 #[.val (.ref u_INACTIVE)] [])) t → Steps p.tables e below (s₁.setTop (entryFrame m #[(.ref u_INACTIVE)] 1)) t := fun t k => castTop (ef_4 m u_INACTIVE) k
  obtain ⟨T1, X1, e1, st1⟩ := getS2 X0 hx hZ hown (host := "") (Or.inl (hw _ (List.mem_of_getElem? (i := 63) rfl))) Via.refl e0 S_INACTIVE (g := (mkF m 1 #[.val (.ref u_INACTIVE)] [(.ref u_INACTIVE)])) rfl (hb hby d4_1)
  have k2 : ∀ t, Steps p.tables e below (T1.setTop (mkF m 12 #[.val (.ref u_INACTIVE)] [(.int (0 : Int32))])) t → Steps p.tables e below (s₁.setTop (entryFrame m #[(.ref u_INACTIVE)] 1)) t := by
    intro t k
    refine pre0 t ?_
    show Steps p.tables e below (s₁.setTop (mkF m 0 #[.val (.ref u_INACTIVE)] [])) _
    refine XS.aloadN X0.here hx rfl (hb hby d4_0) rfl rfl ?_
    show Steps p.tables e below (s₁.setTop (mkF m 1 #[.val (.ref u_INACTIVE)] [(.ref u_INACTIVE)])) _
    refine st1 _ ?_
    show Steps p.tables e below (T1.setTop (mkF m 4 #[.val (.ref u_INACTIVE)] [(.ref u_INACTIVE), (.ref u_INACTIVE)])) _
    refine Jvm.RoadKit.acmp (g := (mkF m 4 #[.val (.ref u_INACTIVE)] [(.ref u_INACTIVE), (.ref u_INACTIVE)])) X1 hx rfl rfl rfl (pc0 := 4) (pc' := 11) (same := true) rfl (hb hby d4_4) rfl (decide_eq_true rfl) (by decide) (by decide) ?_
    show Steps p.tables e below (T1.setTop (mkF m 11 #[.val (.ref u_INACTIVE)] [])) _
    refine XS.iconst X1.here hx rfl (hb hby d4_11) ?_
    exact k
  obtain ⟨fs, hr, hrun, hended, hW, hsame⟩ := X1.leave (v := some (.int (0 : Int32))) (fun h => by rw [Bd.returns] at h; cases h)
  refine ⟨_, _, k2 _ ?_, hrun, hended, _, _, rfl, ?_, ⟨_, rfl⟩, hW, hsame.mono (by decide) (by decide)⟩
  · exact retN X1 hx (t := .boolean) Bd.returns (by simp) (hb hby d4_12) hr
  · show Q4 Z u_INACTIVE h0 n0 _ T1.heap _
    rw [e1]
    exact ⟨rfl, N0, rfl⟩
theorem d5_0 : decode method_2_code 0 = .ok (.iload_n 0, 1) := by decide +kernel
theorem d5_1 : decode method_2_code 1 = .ok (.ifCond .ne 7, 3) := by decide +kernel
theorem d5_8 : decode method_2_code 8 = .ok (.iload_n 0, 1) := by decide +kernel
theorem d5_9 : decode method_2_code 9 = .ok (.iconst 1, 1) := by decide +kernel
theorem d5_10 : decode method_2_code 10 = .ok (.if_icmp .ne 7, 3) := by decide +kernel
theorem d5_13 : decode method_2_code 13 = .ok (.getstatic 13, 3) := by decide +kernel
theorem d5_16 : decode method_2_code 16 = .ok (.areturn, 1) := by decide +kernel
theorem ef_5 (m : MethodId)  : entryFrame m #[(.int (1 : Int32))] 1 = mkF m 0 #[.val (.int (1 : Int32))] [] := by first | (simp [entryFrame, mkF, argsToLocals, Value.category]; done) | rfl
def Q5 (Z : State) (u_ACTIVE : Addr) (h0 : Heap) (n0 : Nat) (v : Option Value) (h : Heap) (L : List Loc) : Prop := v = some (.ref u_ACTIVE) ∧ Fr n0 L ∧ h = h0
set_option maxRecDepth 65536 in
set_option maxHeartbeats 40000000 in
theorem rm5 (l : Launch) (Z : State) (a0 : Array Value) (hw : ∀ d ∈ tables_1, d.before a0 Z = true) (ws : List Jvm.Cond) (u_ACTIVE : Addr) (h0 : Heap) (n0 : Nat) (Z0 : n0 ≤ h0.size) (S_ACTIVE : Sta Z h0 "com/example/chop/chop/compiler/Mark" "ACTIVE" "Lcom/example/chop/chop/compiler/Mark;" (.ref u_ACTIVE)) :
    MetFree l (⟨"com/example/chop/chop/compiler/MarkIsWaitingPinLaw", "pick", "(I)Lcom/example/chop/chop/compiler/Mark;"⟩ : MethodName) (head1 (Jvm.Cond.code (⟨"com/example/chop/chop/compiler/MarkIsWaitingPinLaw", "pick", "(I)Lcom/example/chop/chop/compiler/Mark;"⟩ : MethodName) method_2_code 1 (some (.object "com/example/chop/chop/compiler/Mark")) :: ws) ({ frames := 0, cells := 0, slots := 0, locals := 0 } : Room)) (fun a U => a = #[(.int (1 : Int32))] ∧ Z.Warmed39 U.vm ∧ U.heap = h0) (fun _ _ _ _ _ => True) (fun _ U o U' => ∃ v L, o = .returned v ∧ Q5 Z u_ACTIVE h0 n0 v U'.heap L ∧ FrameEnd U o U' L ({ frames := 0, cells := 0, slots := 0, locals := 0 } : Room).cells ({ frames := 0, cells := 0, slots := 0, locals := 0 } : Room).slots) := by
  refine MetFree.of_bodySF (plainFor_of_name pn_1) hisR ?_
  intro p e s m args below meth c s₁ Bd hml0 hP hK
  obtain ⟨rfl, hZ, hh⟩ := hP
  have hx := Bd.exec
  have hby := Bd.bytes
  have hml : c.maxLocals = 1 := hml0
  have hown : s.vm.findClass "com/example/chop/chop/compiler/MarkIsWaitingPinLaw" = some m.cls := findClass_of_methodNamed Bd.named
  have hnm := (name_of_methodNamed Bd.named Bd.method).1
  have X0 : Stand p l e ({ frames := 0, cells := 0, slots := 0, locals := 0 } : Room) s m #[(.int (1 : Int32))] below meth c s₁ [] 0 0 := Stand.of_body Bd
  have e0 : s₁.heap = h0 := by rw [← hh, Bd.state]; rfl
  have N0 := Fr.nil n0
  have pre0 : ∀ t, Steps p.tables e below (s₁.setTop (mkF m 0 #[.val (.int (1 : Int32))] [])) t → Steps p.tables e below (s₁.setTop (entryFrame m #[(.int (1 : Int32))] 1)) t := fun t k => castTop (ef_5 m ) k
  obtain ⟨T1, X1, e1, st1⟩ := getS2 X0 hx hZ hown (host := "") (Or.inl (hw _ (List.mem_of_getElem? (i := 64) rfl))) Via.refl e0 S_ACTIVE (g := (mkF m 13 #[.val (.int (1 : Int32))] [])) rfl (hb hby d5_13)
  have k2 : ∀ t, Steps p.tables e below (T1.setTop (mkF m 16 #[.val (.int (1 : Int32))] [(.ref u_ACTIVE)])) t → Steps p.tables e below (s₁.setTop (entryFrame m #[(.int (1 : Int32))] 1)) t := by
    intro t k
    refine pre0 t ?_
    show Steps p.tables e below (s₁.setTop (mkF m 0 #[.val (.int (1 : Int32))] [])) _
    refine XS.iloadN X0.here hx rfl (hb hby d5_0) rfl ?_
    show Steps p.tables e below (s₁.setTop (mkF m 1 #[.val (.int (1 : Int32))] [(.int (1 : Int32))])) _
    refine XS.ifYes X0.here hx rfl (pc0 := 1) (pc' := 8) rfl (hb hby d5_1) rfl ((if0 _ _).trans (feq (by decide : ¬ ((1 : Int32) = (0 : Int32)))).2) (by decide) (by decide) ?_
    show Steps p.tables e below (s₁.setTop (mkF m 8 #[.val (.int (1 : Int32))] [])) _
    refine XS.iloadN X0.here hx rfl (hb hby d5_8) rfl ?_
    show Steps p.tables e below (s₁.setTop (mkF m 9 #[.val (.int (1 : Int32))] [(.int (1 : Int32))])) _
    refine XS.iconst X0.here hx rfl (hb hby d5_9) ?_
    show Steps p.tables e below (s₁.setTop (mkF m 10 #[.val (.int (1 : Int32))] [(.int (1 : Int32)), (.int (1 : Int32))])) _
    refine XS.icmpNo X0.here hx rfl (hb hby d5_10) rfl (teq (by decide : (1 : Int32) = (1 : Int32))).2 ?_
    show Steps p.tables e below (s₁.setTop (mkF m 13 #[.val (.int (1 : Int32))] [])) _
    refine st1 _ ?_
    exact k
  obtain ⟨fs, hr, hrun, hended, hW, hsame⟩ := X1.leave (v := some (.ref u_ACTIVE)) (fun h => by rw [Bd.returns] at h; cases h)
  refine ⟨_, _, k2 _ ?_, hrun, hended, _, _, rfl, ?_, ⟨_, rfl⟩, hW, hsame.mono (by decide) (by decide)⟩
  · exact retOut X1 hx Bd.returns rfl (Or.inr (Or.inr (Or.inr (Or.inr ⟨rfl, rfl, rfl⟩)))) (hb hby d5_16) hr
  · show Q5 Z u_ACTIVE h0 n0 _ T1.heap _
    rw [e1]
    exact ⟨rfl, N0, rfl⟩
theorem d6_0 : decode prog_1_method_6_code 0 = .ok (.aload_n 0, 1) := by decide +kernel
theorem d6_1 : decode prog_1_method_6_code 1 = .ok (.getstatic 13, 3) := by decide +kernel
theorem d6_4 : decode prog_1_method_6_code 4 = .ok (.if_acmp .eq 10, 3) := by decide +kernel
theorem d6_7 : decode prog_1_method_6_code 7 = .ok (.aload_n 0, 1) := by decide +kernel
theorem d6_8 : decode prog_1_method_6_code 8 = .ok (.getstatic 16, 3) := by decide +kernel
theorem d6_11 : decode prog_1_method_6_code 11 = .ok (.if_acmp .ne 7, 3) := by decide +kernel
theorem d6_18 : decode prog_1_method_6_code 18 = .ok (.iconst 0, 1) := by decide +kernel
theorem d6_19 : decode prog_1_method_6_code 19 = .ok (.ireturn, 1) := by decide +kernel
theorem ef_6 (m : MethodId) (u_ACTIVE : Addr) : entryFrame m #[(.ref u_ACTIVE)] 1 = mkF m 0 #[.val (.ref u_ACTIVE)] [] := by first | (simp [entryFrame, mkF, argsToLocals, Value.category]; done) | rfl
def Q6 (Z : State) (u_ACTIVE : Addr) (u_GREATER : Addr) (u_GREATER_EQUAL : Addr) (h0 : Heap) (n0 : Nat) (v : Option Value) (h : Heap) (L : List Loc) : Prop := v = some (.int (0 : Int32)) ∧ Fr n0 L ∧ h = h0
set_option maxRecDepth 65536 in
set_option maxHeartbeats 40000000 in
theorem rm6 (l : Launch) (Z : State) (a0 : Array Value) (hw : ∀ d ∈ tables_1, d.before a0 Z = true) (ws : List Jvm.Cond) (u_ACTIVE : Addr) (u_GREATER : Addr) (u_GREATER_EQUAL : Addr) (h0 : Heap) (n0 : Nat) (Z0 : n0 ≤ h0.size) (S_GREATER : Sta Z h0 "com/example/chop/chop/compiler/Mark" "GREATER" "Lcom/example/chop/chop/compiler/Mark;" (.ref u_GREATER)) (S_GREATER_EQUAL : Sta Z h0 "com/example/chop/chop/compiler/Mark" "GREATER_EQUAL" "Lcom/example/chop/chop/compiler/Mark;" (.ref u_GREATER_EQUAL)) (hne_GREATER : u_ACTIVE ≠ u_GREATER) (hne_GREATER_EQUAL : u_ACTIVE ≠ u_GREATER_EQUAL) :
    MetFree l (⟨"com/example/chop/chop/compiler/Mark", "isWaiting", "()Z"⟩ : MethodName) (head1 (Jvm.Cond.code (⟨"com/example/chop/chop/compiler/Mark", "isWaiting", "()Z"⟩ : MethodName) prog_1_method_6_code 1 (some .boolean) :: ws) ({ frames := 0, cells := 0, slots := 0, locals := 0 } : Room)) (fun a U => a = #[(.ref u_ACTIVE)] ∧ Z.Warmed39 U.vm ∧ U.heap = h0) (fun _ _ _ _ _ => True) (fun _ U o U' => ∃ v L, o = .returned v ∧ Q6 Z u_ACTIVE u_GREATER u_GREATER_EQUAL h0 n0 v U'.heap L ∧ FrameEnd U o U' L ({ frames := 0, cells := 0, slots := 0, locals := 0 } : Room).cells ({ frames := 0, cells := 0, slots := 0, locals := 0 } : Room).slots) := by
  refine MetFree.of_bodySF (plainFor_of_name pn_0) hisR ?_
  intro p e s m args below meth c s₁ Bd hml0 hP hK
  obtain ⟨rfl, hZ, hh⟩ := hP
  have hx := Bd.exec
  have hby := Bd.bytes
  have hml : c.maxLocals = 1 := hml0
  have hown : s.vm.findClass "com/example/chop/chop/compiler/Mark" = some m.cls := findClass_of_methodNamed Bd.named
  have hnm := (name_of_methodNamed Bd.named Bd.method).1
  have X0 : Stand p l e ({ frames := 0, cells := 0, slots := 0, locals := 0 } : Room) s m #[(.ref u_ACTIVE)] below meth c s₁ [] 0 0 := Stand.of_body Bd
  have e0 : s₁.heap = h0 := by rw [← hh, Bd.state]; rfl
  have N0 := Fr.nil n0
  have pre0 : ∀ t, Steps p.tables e below (s₁.setTop (mkF m 0 #[.val (.ref u_ACTIVE)] [])) t → Steps p.tables e below (s₁.setTop (entryFrame m #[(.ref u_ACTIVE)] 1)) t := fun t k => castTop (ef_6 m u_ACTIVE) k
  obtain ⟨T1, X1, e1, st1⟩ := getS2 X0 hx hZ hown (host := "") (Or.inl (hw _ (List.mem_of_getElem? (i := 13) rfl))) Via.refl e0 S_GREATER (g := (mkF m 1 #[.val (.ref u_ACTIVE)] [(.ref u_ACTIVE)])) rfl (hb hby d6_1)
  obtain ⟨T2, X2, e2, st2⟩ := getS2 X1 hx hZ hown (host := "") (Or.inl (hw _ (List.mem_of_getElem? (i := 15) rfl))) Via.refl e1 S_GREATER_EQUAL (g := (mkF m 8 #[.val (.ref u_ACTIVE)] [(.ref u_ACTIVE)])) rfl (hb hby d6_8)
  have k3 : ∀ t, Steps p.tables e below (T2.setTop (mkF m 19 #[.val (.ref u_ACTIVE)] [(.int (0 : Int32))])) t → Steps p.tables e below (s₁.setTop (entryFrame m #[(.ref u_ACTIVE)] 1)) t := by
    intro t k
    refine pre0 t ?_
    show Steps p.tables e below (s₁.setTop (mkF m 0 #[.val (.ref u_ACTIVE)] [])) _
    refine XS.aloadN X0.here hx rfl (hb hby d6_0) rfl rfl ?_
    show Steps p.tables e below (s₁.setTop (mkF m 1 #[.val (.ref u_ACTIVE)] [(.ref u_ACTIVE)])) _
    refine st1 _ ?_
    show Steps p.tables e below (T1.setTop (mkF m 4 #[.val (.ref u_ACTIVE)] [(.ref u_GREATER), (.ref u_ACTIVE)])) _
    refine Jvm.RoadKit.acmp (g := (mkF m 4 #[.val (.ref u_ACTIVE)] [(.ref u_GREATER), (.ref u_ACTIVE)])) X1 hx rfl rfl rfl (pc0 := 4) (pc' := 7) (same := false) rfl (hb hby d6_4) rfl (decide_eq_false fun q => hne_GREATER (Value.ref.inj q)) (by decide) (by decide) ?_
    show Steps p.tables e below (T1.setTop (mkF m 7 #[.val (.ref u_ACTIVE)] [])) _
    refine XS.aloadN X1.here hx rfl (hb hby d6_7) rfl rfl ?_
    show Steps p.tables e below (T1.setTop (mkF m 8 #[.val (.ref u_ACTIVE)] [(.ref u_ACTIVE)])) _
    refine st2 _ ?_
    show Steps p.tables e below (T2.setTop (mkF m 11 #[.val (.ref u_ACTIVE)] [(.ref u_GREATER_EQUAL), (.ref u_ACTIVE)])) _
    refine Jvm.RoadKit.acmp (g := (mkF m 11 #[.val (.ref u_ACTIVE)] [(.ref u_GREATER_EQUAL), (.ref u_ACTIVE)])) X2 hx rfl rfl rfl (pc0 := 11) (pc' := 18) (same := false) rfl (hb hby d6_11) rfl (decide_eq_false fun q => hne_GREATER_EQUAL (Value.ref.inj q)) (by decide) (by decide) ?_
    show Steps p.tables e below (T2.setTop (mkF m 18 #[.val (.ref u_ACTIVE)] [])) _
    refine XS.iconst X2.here hx rfl (hb hby d6_18) ?_
    exact k
  obtain ⟨fs, hr, hrun, hended, hW, hsame⟩ := X2.leave (v := some (.int (0 : Int32))) (fun h => by rw [Bd.returns] at h; cases h)
  refine ⟨_, _, k3 _ ?_, hrun, hended, _, _, rfl, ?_, ⟨_, rfl⟩, hW, hsame.mono (by decide) (by decide)⟩
  · exact retN X2 hx (t := .boolean) Bd.returns (by simp) (hb hby d6_19) hr
  · show Q6 Z u_ACTIVE u_GREATER u_GREATER_EQUAL h0 n0 _ T2.heap _
    rw [e2]
    exact ⟨rfl, N0, rfl⟩
theorem d7_0 : decode prog_1_method_5_code 0 = .ok (.aload_n 0, 1) := by decide +kernel
theorem d7_1 : decode prog_1_method_5_code 1 = .ok (.getstatic 3, 3) := by decide +kernel
theorem d7_4 : decode prog_1_method_5_code 4 = .ok (.if_acmp .eq 7, 3) := by decide +kernel
theorem d7_7 : decode prog_1_method_5_code 7 = .ok (.iconst 1, 1) := by decide +kernel
theorem d7_8 : decode prog_1_method_5_code 8 = .ok (.goto 4, 3) := by decide +kernel
theorem d7_12 : decode prog_1_method_5_code 12 = .ok (.ireturn, 1) := by decide +kernel
theorem ef_7 (m : MethodId) (u_ACTIVE : Addr) : entryFrame m #[(.ref u_ACTIVE)] 1 = mkF m 0 #[.val (.ref u_ACTIVE)] [] := by first | (simp [entryFrame, mkF, argsToLocals, Value.category]; done) | rfl
def Q7 (Z : State) (u_ACTIVE : Addr) (u_INACTIVE : Addr) (h0 : Heap) (n0 : Nat) (v : Option Value) (h : Heap) (L : List Loc) : Prop := v = some (.int (1 : Int32)) ∧ Fr n0 L ∧ h = h0
set_option maxRecDepth 65536 in
set_option maxHeartbeats 40000000 in
theorem rm7 (l : Launch) (Z : State) (a0 : Array Value) (hw : ∀ d ∈ tables_1, d.before a0 Z = true) (ws : List Jvm.Cond) (u_ACTIVE : Addr) (u_INACTIVE : Addr) (h0 : Heap) (n0 : Nat) (Z0 : n0 ≤ h0.size) (S_INACTIVE : Sta Z h0 "com/example/chop/chop/compiler/Mark" "INACTIVE" "Lcom/example/chop/chop/compiler/Mark;" (.ref u_INACTIVE)) (hne_INACTIVE : u_ACTIVE ≠ u_INACTIVE) :
    MetFree l (⟨"com/example/chop/chop/compiler/Mark", "isActive", "()Z"⟩ : MethodName) (head1 (Jvm.Cond.code (⟨"com/example/chop/chop/compiler/Mark", "isActive", "()Z"⟩ : MethodName) prog_1_method_5_code 1 (some .boolean) :: ws) ({ frames := 0, cells := 0, slots := 0, locals := 0 } : Room)) (fun a U => a = #[(.ref u_ACTIVE)] ∧ Z.Warmed39 U.vm ∧ U.heap = h0) (fun _ _ _ _ _ => True) (fun _ U o U' => ∃ v L, o = .returned v ∧ Q7 Z u_ACTIVE u_INACTIVE h0 n0 v U'.heap L ∧ FrameEnd U o U' L ({ frames := 0, cells := 0, slots := 0, locals := 0 } : Room).cells ({ frames := 0, cells := 0, slots := 0, locals := 0 } : Room).slots) := by
  refine MetFree.of_bodySF (plainFor_of_name pn_0) hisR ?_
  intro p e s m args below meth c s₁ Bd hml0 hP hK
  obtain ⟨rfl, hZ, hh⟩ := hP
  have hx := Bd.exec
  have hby := Bd.bytes
  have hml : c.maxLocals = 1 := hml0
  have hown : s.vm.findClass "com/example/chop/chop/compiler/Mark" = some m.cls := findClass_of_methodNamed Bd.named
  have hnm := (name_of_methodNamed Bd.named Bd.method).1
  have X0 : Stand p l e ({ frames := 0, cells := 0, slots := 0, locals := 0 } : Room) s m #[(.ref u_ACTIVE)] below meth c s₁ [] 0 0 := Stand.of_body Bd
  have e0 : s₁.heap = h0 := by rw [← hh, Bd.state]; rfl
  have N0 := Fr.nil n0
  have pre0 : ∀ t, Steps p.tables e below (s₁.setTop (mkF m 0 #[.val (.ref u_ACTIVE)] [])) t → Steps p.tables e below (s₁.setTop (entryFrame m #[(.ref u_ACTIVE)] 1)) t := fun t k => castTop (ef_7 m u_ACTIVE) k
  obtain ⟨T1, X1, e1, st1⟩ := getS2 X0 hx hZ hown (host := "") (Or.inl (hw _ (List.mem_of_getElem? (i := 63) rfl))) Via.refl e0 S_INACTIVE (g := (mkF m 1 #[.val (.ref u_ACTIVE)] [(.ref u_ACTIVE)])) rfl (hb hby d7_1)
  have k2 : ∀ t, Steps p.tables e below (T1.setTop (mkF m 12 #[.val (.ref u_ACTIVE)] [(.int (1 : Int32))])) t → Steps p.tables e below (s₁.setTop (entryFrame m #[(.ref u_ACTIVE)] 1)) t := by
    intro t k
    refine pre0 t ?_
    show Steps p.tables e below (s₁.setTop (mkF m 0 #[.val (.ref u_ACTIVE)] [])) _
    refine XS.aloadN X0.here hx rfl (hb hby d7_0) rfl rfl ?_
    show Steps p.tables e below (s₁.setTop (mkF m 1 #[.val (.ref u_ACTIVE)] [(.ref u_ACTIVE)])) _
    refine st1 _ ?_
    show Steps p.tables e below (T1.setTop (mkF m 4 #[.val (.ref u_ACTIVE)] [(.ref u_INACTIVE), (.ref u_ACTIVE)])) _
    refine Jvm.RoadKit.acmp (g := (mkF m 4 #[.val (.ref u_ACTIVE)] [(.ref u_INACTIVE), (.ref u_ACTIVE)])) X1 hx rfl rfl rfl (pc0 := 4) (pc' := 7) (same := false) rfl (hb hby d7_4) rfl (decide_eq_false fun q => hne_INACTIVE (Value.ref.inj q)) (by decide) (by decide) ?_
    show Steps p.tables e below (T1.setTop (mkF m 7 #[.val (.ref u_ACTIVE)] [])) _
    refine XS.iconst X1.here hx rfl (hb hby d7_7) ?_
    show Steps p.tables e below (T1.setTop (mkF m 8 #[.val (.ref u_ACTIVE)] [(.int (1 : Int32))])) _
    refine XS.goto X1.here hx rfl (pc0 := 8) (pc' := 12) rfl (hb hby d7_8) (by decide) (by decide) ?_
    exact k
  obtain ⟨fs, hr, hrun, hended, hW, hsame⟩ := X1.leave (v := some (.int (1 : Int32))) (fun h => by rw [Bd.returns] at h; cases h)
  refine ⟨_, _, k2 _ ?_, hrun, hended, _, _, rfl, ?_, ⟨_, rfl⟩, hW, hsame.mono (by decide) (by decide)⟩
  · exact retN X1 hx (t := .boolean) Bd.returns (by simp) (hb hby d7_12) hr
  · show Q7 Z u_ACTIVE u_INACTIVE h0 n0 _ T1.heap _
    rw [e1]
    exact ⟨rfl, N0, rfl⟩
theorem d8_0 : decode method_2_code 0 = .ok (.iload_n 0, 1) := by decide +kernel
theorem d8_1 : decode method_2_code 1 = .ok (.ifCond .ne 7, 3) := by decide +kernel
theorem d8_8 : decode method_2_code 8 = .ok (.iload_n 0, 1) := by decide +kernel
theorem d8_9 : decode method_2_code 9 = .ok (.iconst 1, 1) := by decide +kernel
theorem d8_10 : decode method_2_code 10 = .ok (.if_icmp .ne 7, 3) := by decide +kernel
theorem d8_17 : decode method_2_code 17 = .ok (.iload_n 0, 1) := by decide +kernel
theorem d8_18 : decode method_2_code 18 = .ok (.iconst 2, 1) := by decide +kernel
theorem d8_19 : decode method_2_code 19 = .ok (.if_icmp .ne 7, 3) := by decide +kernel
theorem d8_22 : decode method_2_code 22 = .ok (.getstatic 16, 3) := by decide +kernel
theorem d8_25 : decode method_2_code 25 = .ok (.areturn, 1) := by decide +kernel
theorem ef_8 (m : MethodId)  : entryFrame m #[(.int (2 : Int32))] 1 = mkF m 0 #[.val (.int (2 : Int32))] [] := by first | (simp [entryFrame, mkF, argsToLocals, Value.category]; done) | rfl
def Q8 (Z : State) (u_LESS : Addr) (h0 : Heap) (n0 : Nat) (v : Option Value) (h : Heap) (L : List Loc) : Prop := v = some (.ref u_LESS) ∧ Fr n0 L ∧ h = h0
set_option maxRecDepth 65536 in
set_option maxHeartbeats 40000000 in
theorem rm8 (l : Launch) (Z : State) (a0 : Array Value) (hw : ∀ d ∈ tables_1, d.before a0 Z = true) (ws : List Jvm.Cond) (u_LESS : Addr) (h0 : Heap) (n0 : Nat) (Z0 : n0 ≤ h0.size) (S_LESS : Sta Z h0 "com/example/chop/chop/compiler/Mark" "LESS" "Lcom/example/chop/chop/compiler/Mark;" (.ref u_LESS)) :
    MetFree l (⟨"com/example/chop/chop/compiler/MarkIsWaitingPinLaw", "pick", "(I)Lcom/example/chop/chop/compiler/Mark;"⟩ : MethodName) (head1 (Jvm.Cond.code (⟨"com/example/chop/chop/compiler/MarkIsWaitingPinLaw", "pick", "(I)Lcom/example/chop/chop/compiler/Mark;"⟩ : MethodName) method_2_code 1 (some (.object "com/example/chop/chop/compiler/Mark")) :: ws) ({ frames := 0, cells := 0, slots := 0, locals := 0 } : Room)) (fun a U => a = #[(.int (2 : Int32))] ∧ Z.Warmed39 U.vm ∧ U.heap = h0) (fun _ _ _ _ _ => True) (fun _ U o U' => ∃ v L, o = .returned v ∧ Q8 Z u_LESS h0 n0 v U'.heap L ∧ FrameEnd U o U' L ({ frames := 0, cells := 0, slots := 0, locals := 0 } : Room).cells ({ frames := 0, cells := 0, slots := 0, locals := 0 } : Room).slots) := by
  refine MetFree.of_bodySF (plainFor_of_name pn_1) hisR ?_
  intro p e s m args below meth c s₁ Bd hml0 hP hK
  obtain ⟨rfl, hZ, hh⟩ := hP
  have hx := Bd.exec
  have hby := Bd.bytes
  have hml : c.maxLocals = 1 := hml0
  have hown : s.vm.findClass "com/example/chop/chop/compiler/MarkIsWaitingPinLaw" = some m.cls := findClass_of_methodNamed Bd.named
  have hnm := (name_of_methodNamed Bd.named Bd.method).1
  have X0 : Stand p l e ({ frames := 0, cells := 0, slots := 0, locals := 0 } : Room) s m #[(.int (2 : Int32))] below meth c s₁ [] 0 0 := Stand.of_body Bd
  have e0 : s₁.heap = h0 := by rw [← hh, Bd.state]; rfl
  have N0 := Fr.nil n0
  have pre0 : ∀ t, Steps p.tables e below (s₁.setTop (mkF m 0 #[.val (.int (2 : Int32))] [])) t → Steps p.tables e below (s₁.setTop (entryFrame m #[(.int (2 : Int32))] 1)) t := fun t k => castTop (ef_8 m ) k
  obtain ⟨T1, X1, e1, st1⟩ := getS2 X0 hx hZ hown (host := "") (Or.inl (hw _ (List.mem_of_getElem? (i := 67) rfl))) Via.refl e0 S_LESS (g := (mkF m 22 #[.val (.int (2 : Int32))] [])) rfl (hb hby d8_22)
  have k2 : ∀ t, Steps p.tables e below (T1.setTop (mkF m 25 #[.val (.int (2 : Int32))] [(.ref u_LESS)])) t → Steps p.tables e below (s₁.setTop (entryFrame m #[(.int (2 : Int32))] 1)) t := by
    intro t k
    refine pre0 t ?_
    show Steps p.tables e below (s₁.setTop (mkF m 0 #[.val (.int (2 : Int32))] [])) _
    refine XS.iloadN X0.here hx rfl (hb hby d8_0) rfl ?_
    show Steps p.tables e below (s₁.setTop (mkF m 1 #[.val (.int (2 : Int32))] [(.int (2 : Int32))])) _
    refine XS.ifYes X0.here hx rfl (pc0 := 1) (pc' := 8) rfl (hb hby d8_1) rfl ((if0 _ _).trans (feq (by decide : ¬ ((2 : Int32) = (0 : Int32)))).2) (by decide) (by decide) ?_
    show Steps p.tables e below (s₁.setTop (mkF m 8 #[.val (.int (2 : Int32))] [])) _
    refine XS.iloadN X0.here hx rfl (hb hby d8_8) rfl ?_
    show Steps p.tables e below (s₁.setTop (mkF m 9 #[.val (.int (2 : Int32))] [(.int (2 : Int32))])) _
    refine XS.iconst X0.here hx rfl (hb hby d8_9) ?_
    show Steps p.tables e below (s₁.setTop (mkF m 10 #[.val (.int (2 : Int32))] [(.int (1 : Int32)), (.int (2 : Int32))])) _
    refine XS.icmpYes X0.here hx rfl (pc0 := 10) (pc' := 17) rfl (hb hby d8_10) rfl (feq (by decide : ¬ ((2 : Int32) = (1 : Int32)))).2 (by decide) (by decide) ?_
    show Steps p.tables e below (s₁.setTop (mkF m 17 #[.val (.int (2 : Int32))] [])) _
    refine XS.iloadN X0.here hx rfl (hb hby d8_17) rfl ?_
    show Steps p.tables e below (s₁.setTop (mkF m 18 #[.val (.int (2 : Int32))] [(.int (2 : Int32))])) _
    refine XS.iconst X0.here hx rfl (hb hby d8_18) ?_
    show Steps p.tables e below (s₁.setTop (mkF m 19 #[.val (.int (2 : Int32))] [(.int (2 : Int32)), (.int (2 : Int32))])) _
    refine XS.icmpNo X0.here hx rfl (hb hby d8_19) rfl (teq (by decide : (2 : Int32) = (2 : Int32))).2 ?_
    show Steps p.tables e below (s₁.setTop (mkF m 22 #[.val (.int (2 : Int32))] [])) _
    refine st1 _ ?_
    exact k
  obtain ⟨fs, hr, hrun, hended, hW, hsame⟩ := X1.leave (v := some (.ref u_LESS)) (fun h => by rw [Bd.returns] at h; cases h)
  refine ⟨_, _, k2 _ ?_, hrun, hended, _, _, rfl, ?_, ⟨_, rfl⟩, hW, hsame.mono (by decide) (by decide)⟩
  · exact retOut X1 hx Bd.returns rfl (Or.inr (Or.inr (Or.inr (Or.inr ⟨rfl, rfl, rfl⟩)))) (hb hby d8_25) hr
  · show Q8 Z u_LESS h0 n0 _ T1.heap _
    rw [e1]
    exact ⟨rfl, N0, rfl⟩
theorem d9_0 : decode prog_1_method_6_code 0 = .ok (.aload_n 0, 1) := by decide +kernel
theorem d9_1 : decode prog_1_method_6_code 1 = .ok (.getstatic 13, 3) := by decide +kernel
theorem d9_4 : decode prog_1_method_6_code 4 = .ok (.if_acmp .eq 10, 3) := by decide +kernel
theorem d9_7 : decode prog_1_method_6_code 7 = .ok (.aload_n 0, 1) := by decide +kernel
theorem d9_8 : decode prog_1_method_6_code 8 = .ok (.getstatic 16, 3) := by decide +kernel
theorem d9_11 : decode prog_1_method_6_code 11 = .ok (.if_acmp .ne 7, 3) := by decide +kernel
theorem d9_18 : decode prog_1_method_6_code 18 = .ok (.iconst 0, 1) := by decide +kernel
theorem d9_19 : decode prog_1_method_6_code 19 = .ok (.ireturn, 1) := by decide +kernel
theorem ef_9 (m : MethodId) (u_LESS : Addr) : entryFrame m #[(.ref u_LESS)] 1 = mkF m 0 #[.val (.ref u_LESS)] [] := by first | (simp [entryFrame, mkF, argsToLocals, Value.category]; done) | rfl
def Q9 (Z : State) (u_LESS : Addr) (u_GREATER : Addr) (u_GREATER_EQUAL : Addr) (h0 : Heap) (n0 : Nat) (v : Option Value) (h : Heap) (L : List Loc) : Prop := v = some (.int (0 : Int32)) ∧ Fr n0 L ∧ h = h0
set_option maxRecDepth 65536 in
set_option maxHeartbeats 40000000 in
theorem rm9 (l : Launch) (Z : State) (a0 : Array Value) (hw : ∀ d ∈ tables_1, d.before a0 Z = true) (ws : List Jvm.Cond) (u_LESS : Addr) (u_GREATER : Addr) (u_GREATER_EQUAL : Addr) (h0 : Heap) (n0 : Nat) (Z0 : n0 ≤ h0.size) (S_GREATER : Sta Z h0 "com/example/chop/chop/compiler/Mark" "GREATER" "Lcom/example/chop/chop/compiler/Mark;" (.ref u_GREATER)) (S_GREATER_EQUAL : Sta Z h0 "com/example/chop/chop/compiler/Mark" "GREATER_EQUAL" "Lcom/example/chop/chop/compiler/Mark;" (.ref u_GREATER_EQUAL)) (hne_GREATER : u_LESS ≠ u_GREATER) (hne_GREATER_EQUAL : u_LESS ≠ u_GREATER_EQUAL) :
    MetFree l (⟨"com/example/chop/chop/compiler/Mark", "isWaiting", "()Z"⟩ : MethodName) (head1 (Jvm.Cond.code (⟨"com/example/chop/chop/compiler/Mark", "isWaiting", "()Z"⟩ : MethodName) prog_1_method_6_code 1 (some .boolean) :: ws) ({ frames := 0, cells := 0, slots := 0, locals := 0 } : Room)) (fun a U => a = #[(.ref u_LESS)] ∧ Z.Warmed39 U.vm ∧ U.heap = h0) (fun _ _ _ _ _ => True) (fun _ U o U' => ∃ v L, o = .returned v ∧ Q9 Z u_LESS u_GREATER u_GREATER_EQUAL h0 n0 v U'.heap L ∧ FrameEnd U o U' L ({ frames := 0, cells := 0, slots := 0, locals := 0 } : Room).cells ({ frames := 0, cells := 0, slots := 0, locals := 0 } : Room).slots) := by
  refine MetFree.of_bodySF (plainFor_of_name pn_0) hisR ?_
  intro p e s m args below meth c s₁ Bd hml0 hP hK
  obtain ⟨rfl, hZ, hh⟩ := hP
  have hx := Bd.exec
  have hby := Bd.bytes
  have hml : c.maxLocals = 1 := hml0
  have hown : s.vm.findClass "com/example/chop/chop/compiler/Mark" = some m.cls := findClass_of_methodNamed Bd.named
  have hnm := (name_of_methodNamed Bd.named Bd.method).1
  have X0 : Stand p l e ({ frames := 0, cells := 0, slots := 0, locals := 0 } : Room) s m #[(.ref u_LESS)] below meth c s₁ [] 0 0 := Stand.of_body Bd
  have e0 : s₁.heap = h0 := by rw [← hh, Bd.state]; rfl
  have N0 := Fr.nil n0
  have pre0 : ∀ t, Steps p.tables e below (s₁.setTop (mkF m 0 #[.val (.ref u_LESS)] [])) t → Steps p.tables e below (s₁.setTop (entryFrame m #[(.ref u_LESS)] 1)) t := fun t k => castTop (ef_9 m u_LESS) k
  obtain ⟨T1, X1, e1, st1⟩ := getS2 X0 hx hZ hown (host := "") (Or.inl (hw _ (List.mem_of_getElem? (i := 13) rfl))) Via.refl e0 S_GREATER (g := (mkF m 1 #[.val (.ref u_LESS)] [(.ref u_LESS)])) rfl (hb hby d9_1)
  obtain ⟨T2, X2, e2, st2⟩ := getS2 X1 hx hZ hown (host := "") (Or.inl (hw _ (List.mem_of_getElem? (i := 15) rfl))) Via.refl e1 S_GREATER_EQUAL (g := (mkF m 8 #[.val (.ref u_LESS)] [(.ref u_LESS)])) rfl (hb hby d9_8)
  have k3 : ∀ t, Steps p.tables e below (T2.setTop (mkF m 19 #[.val (.ref u_LESS)] [(.int (0 : Int32))])) t → Steps p.tables e below (s₁.setTop (entryFrame m #[(.ref u_LESS)] 1)) t := by
    intro t k
    refine pre0 t ?_
    show Steps p.tables e below (s₁.setTop (mkF m 0 #[.val (.ref u_LESS)] [])) _
    refine XS.aloadN X0.here hx rfl (hb hby d9_0) rfl rfl ?_
    show Steps p.tables e below (s₁.setTop (mkF m 1 #[.val (.ref u_LESS)] [(.ref u_LESS)])) _
    refine st1 _ ?_
    show Steps p.tables e below (T1.setTop (mkF m 4 #[.val (.ref u_LESS)] [(.ref u_GREATER), (.ref u_LESS)])) _
    refine Jvm.RoadKit.acmp (g := (mkF m 4 #[.val (.ref u_LESS)] [(.ref u_GREATER), (.ref u_LESS)])) X1 hx rfl rfl rfl (pc0 := 4) (pc' := 7) (same := false) rfl (hb hby d9_4) rfl (decide_eq_false fun q => hne_GREATER (Value.ref.inj q)) (by decide) (by decide) ?_
    show Steps p.tables e below (T1.setTop (mkF m 7 #[.val (.ref u_LESS)] [])) _
    refine XS.aloadN X1.here hx rfl (hb hby d9_7) rfl rfl ?_
    show Steps p.tables e below (T1.setTop (mkF m 8 #[.val (.ref u_LESS)] [(.ref u_LESS)])) _
    refine st2 _ ?_
    show Steps p.tables e below (T2.setTop (mkF m 11 #[.val (.ref u_LESS)] [(.ref u_GREATER_EQUAL), (.ref u_LESS)])) _
    refine Jvm.RoadKit.acmp (g := (mkF m 11 #[.val (.ref u_LESS)] [(.ref u_GREATER_EQUAL), (.ref u_LESS)])) X2 hx rfl rfl rfl (pc0 := 11) (pc' := 18) (same := false) rfl (hb hby d9_11) rfl (decide_eq_false fun q => hne_GREATER_EQUAL (Value.ref.inj q)) (by decide) (by decide) ?_
    show Steps p.tables e below (T2.setTop (mkF m 18 #[.val (.ref u_LESS)] [])) _
    refine XS.iconst X2.here hx rfl (hb hby d9_18) ?_
    exact k
  obtain ⟨fs, hr, hrun, hended, hW, hsame⟩ := X2.leave (v := some (.int (0 : Int32))) (fun h => by rw [Bd.returns] at h; cases h)
  refine ⟨_, _, k3 _ ?_, hrun, hended, _, _, rfl, ?_, ⟨_, rfl⟩, hW, hsame.mono (by decide) (by decide)⟩
  · exact retN X2 hx (t := .boolean) Bd.returns (by simp) (hb hby d9_19) hr
  · show Q9 Z u_LESS u_GREATER u_GREATER_EQUAL h0 n0 _ T2.heap _
    rw [e2]
    exact ⟨rfl, N0, rfl⟩
theorem d10_0 : decode prog_1_method_5_code 0 = .ok (.aload_n 0, 1) := by decide +kernel
theorem d10_1 : decode prog_1_method_5_code 1 = .ok (.getstatic 3, 3) := by decide +kernel
theorem d10_4 : decode prog_1_method_5_code 4 = .ok (.if_acmp .eq 7, 3) := by decide +kernel
theorem d10_7 : decode prog_1_method_5_code 7 = .ok (.iconst 1, 1) := by decide +kernel
theorem d10_8 : decode prog_1_method_5_code 8 = .ok (.goto 4, 3) := by decide +kernel
theorem d10_12 : decode prog_1_method_5_code 12 = .ok (.ireturn, 1) := by decide +kernel
theorem ef_10 (m : MethodId) (u_LESS : Addr) : entryFrame m #[(.ref u_LESS)] 1 = mkF m 0 #[.val (.ref u_LESS)] [] := by first | (simp [entryFrame, mkF, argsToLocals, Value.category]; done) | rfl
def Q10 (Z : State) (u_LESS : Addr) (u_INACTIVE : Addr) (h0 : Heap) (n0 : Nat) (v : Option Value) (h : Heap) (L : List Loc) : Prop := v = some (.int (1 : Int32)) ∧ Fr n0 L ∧ h = h0
set_option maxRecDepth 65536 in
set_option maxHeartbeats 40000000 in
theorem rm10 (l : Launch) (Z : State) (a0 : Array Value) (hw : ∀ d ∈ tables_1, d.before a0 Z = true) (ws : List Jvm.Cond) (u_LESS : Addr) (u_INACTIVE : Addr) (h0 : Heap) (n0 : Nat) (Z0 : n0 ≤ h0.size) (S_INACTIVE : Sta Z h0 "com/example/chop/chop/compiler/Mark" "INACTIVE" "Lcom/example/chop/chop/compiler/Mark;" (.ref u_INACTIVE)) (hne_INACTIVE : u_LESS ≠ u_INACTIVE) :
    MetFree l (⟨"com/example/chop/chop/compiler/Mark", "isActive", "()Z"⟩ : MethodName) (head1 (Jvm.Cond.code (⟨"com/example/chop/chop/compiler/Mark", "isActive", "()Z"⟩ : MethodName) prog_1_method_5_code 1 (some .boolean) :: ws) ({ frames := 0, cells := 0, slots := 0, locals := 0 } : Room)) (fun a U => a = #[(.ref u_LESS)] ∧ Z.Warmed39 U.vm ∧ U.heap = h0) (fun _ _ _ _ _ => True) (fun _ U o U' => ∃ v L, o = .returned v ∧ Q10 Z u_LESS u_INACTIVE h0 n0 v U'.heap L ∧ FrameEnd U o U' L ({ frames := 0, cells := 0, slots := 0, locals := 0 } : Room).cells ({ frames := 0, cells := 0, slots := 0, locals := 0 } : Room).slots) := by
  refine MetFree.of_bodySF (plainFor_of_name pn_0) hisR ?_
  intro p e s m args below meth c s₁ Bd hml0 hP hK
  obtain ⟨rfl, hZ, hh⟩ := hP
  have hx := Bd.exec
  have hby := Bd.bytes
  have hml : c.maxLocals = 1 := hml0
  have hown : s.vm.findClass "com/example/chop/chop/compiler/Mark" = some m.cls := findClass_of_methodNamed Bd.named
  have hnm := (name_of_methodNamed Bd.named Bd.method).1
  have X0 : Stand p l e ({ frames := 0, cells := 0, slots := 0, locals := 0 } : Room) s m #[(.ref u_LESS)] below meth c s₁ [] 0 0 := Stand.of_body Bd
  have e0 : s₁.heap = h0 := by rw [← hh, Bd.state]; rfl
  have N0 := Fr.nil n0
  have pre0 : ∀ t, Steps p.tables e below (s₁.setTop (mkF m 0 #[.val (.ref u_LESS)] [])) t → Steps p.tables e below (s₁.setTop (entryFrame m #[(.ref u_LESS)] 1)) t := fun t k => castTop (ef_10 m u_LESS) k
  obtain ⟨T1, X1, e1, st1⟩ := getS2 X0 hx hZ hown (host := "") (Or.inl (hw _ (List.mem_of_getElem? (i := 63) rfl))) Via.refl e0 S_INACTIVE (g := (mkF m 1 #[.val (.ref u_LESS)] [(.ref u_LESS)])) rfl (hb hby d10_1)
  have k2 : ∀ t, Steps p.tables e below (T1.setTop (mkF m 12 #[.val (.ref u_LESS)] [(.int (1 : Int32))])) t → Steps p.tables e below (s₁.setTop (entryFrame m #[(.ref u_LESS)] 1)) t := by
    intro t k
    refine pre0 t ?_
    show Steps p.tables e below (s₁.setTop (mkF m 0 #[.val (.ref u_LESS)] [])) _
    refine XS.aloadN X0.here hx rfl (hb hby d10_0) rfl rfl ?_
    show Steps p.tables e below (s₁.setTop (mkF m 1 #[.val (.ref u_LESS)] [(.ref u_LESS)])) _
    refine st1 _ ?_
    show Steps p.tables e below (T1.setTop (mkF m 4 #[.val (.ref u_LESS)] [(.ref u_INACTIVE), (.ref u_LESS)])) _
    refine Jvm.RoadKit.acmp (g := (mkF m 4 #[.val (.ref u_LESS)] [(.ref u_INACTIVE), (.ref u_LESS)])) X1 hx rfl rfl rfl (pc0 := 4) (pc' := 7) (same := false) rfl (hb hby d10_4) rfl (decide_eq_false fun q => hne_INACTIVE (Value.ref.inj q)) (by decide) (by decide) ?_
    show Steps p.tables e below (T1.setTop (mkF m 7 #[.val (.ref u_LESS)] [])) _
    refine XS.iconst X1.here hx rfl (hb hby d10_7) ?_
    show Steps p.tables e below (T1.setTop (mkF m 8 #[.val (.ref u_LESS)] [(.int (1 : Int32))])) _
    refine XS.goto X1.here hx rfl (pc0 := 8) (pc' := 12) rfl (hb hby d10_8) (by decide) (by decide) ?_
    exact k
  obtain ⟨fs, hr, hrun, hended, hW, hsame⟩ := X1.leave (v := some (.int (1 : Int32))) (fun h => by rw [Bd.returns] at h; cases h)
  refine ⟨_, _, k2 _ ?_, hrun, hended, _, _, rfl, ?_, ⟨_, rfl⟩, hW, hsame.mono (by decide) (by decide)⟩
  · exact retN X1 hx (t := .boolean) Bd.returns (by simp) (hb hby d10_12) hr
  · show Q10 Z u_LESS u_INACTIVE h0 n0 _ T1.heap _
    rw [e1]
    exact ⟨rfl, N0, rfl⟩
theorem d11_0 : decode method_2_code 0 = .ok (.iload_n 0, 1) := by decide +kernel
theorem d11_1 : decode method_2_code 1 = .ok (.ifCond .ne 7, 3) := by decide +kernel
theorem d11_8 : decode method_2_code 8 = .ok (.iload_n 0, 1) := by decide +kernel
theorem d11_9 : decode method_2_code 9 = .ok (.iconst 1, 1) := by decide +kernel
theorem d11_10 : decode method_2_code 10 = .ok (.if_icmp .ne 7, 3) := by decide +kernel
theorem d11_17 : decode method_2_code 17 = .ok (.iload_n 0, 1) := by decide +kernel
theorem d11_18 : decode method_2_code 18 = .ok (.iconst 2, 1) := by decide +kernel
theorem d11_19 : decode method_2_code 19 = .ok (.if_icmp .ne 7, 3) := by decide +kernel
theorem d11_26 : decode method_2_code 26 = .ok (.iload_n 0, 1) := by decide +kernel
theorem d11_27 : decode method_2_code 27 = .ok (.iconst 3, 1) := by decide +kernel
theorem d11_28 : decode method_2_code 28 = .ok (.if_icmp .ne 7, 3) := by decide +kernel
theorem d11_31 : decode method_2_code 31 = .ok (.getstatic 19, 3) := by decide +kernel
theorem d11_34 : decode method_2_code 34 = .ok (.areturn, 1) := by decide +kernel
theorem ef_11 (m : MethodId)  : entryFrame m #[(.int (3 : Int32))] 1 = mkF m 0 #[.val (.int (3 : Int32))] [] := by first | (simp [entryFrame, mkF, argsToLocals, Value.category]; done) | rfl
def Q11 (Z : State) (u_GREATER : Addr) (h0 : Heap) (n0 : Nat) (v : Option Value) (h : Heap) (L : List Loc) : Prop := v = some (.ref u_GREATER) ∧ Fr n0 L ∧ h = h0
set_option maxRecDepth 65536 in
set_option maxHeartbeats 40000000 in
theorem rm11 (l : Launch) (Z : State) (a0 : Array Value) (hw : ∀ d ∈ tables_1, d.before a0 Z = true) (ws : List Jvm.Cond) (u_GREATER : Addr) (h0 : Heap) (n0 : Nat) (Z0 : n0 ≤ h0.size) (S_GREATER : Sta Z h0 "com/example/chop/chop/compiler/Mark" "GREATER" "Lcom/example/chop/chop/compiler/Mark;" (.ref u_GREATER)) :
    MetFree l (⟨"com/example/chop/chop/compiler/MarkIsWaitingPinLaw", "pick", "(I)Lcom/example/chop/chop/compiler/Mark;"⟩ : MethodName) (head1 (Jvm.Cond.code (⟨"com/example/chop/chop/compiler/MarkIsWaitingPinLaw", "pick", "(I)Lcom/example/chop/chop/compiler/Mark;"⟩ : MethodName) method_2_code 1 (some (.object "com/example/chop/chop/compiler/Mark")) :: ws) ({ frames := 0, cells := 0, slots := 0, locals := 0 } : Room)) (fun a U => a = #[(.int (3 : Int32))] ∧ Z.Warmed39 U.vm ∧ U.heap = h0) (fun _ _ _ _ _ => True) (fun _ U o U' => ∃ v L, o = .returned v ∧ Q11 Z u_GREATER h0 n0 v U'.heap L ∧ FrameEnd U o U' L ({ frames := 0, cells := 0, slots := 0, locals := 0 } : Room).cells ({ frames := 0, cells := 0, slots := 0, locals := 0 } : Room).slots) := by
  refine MetFree.of_bodySF (plainFor_of_name pn_1) hisR ?_
  intro p e s m args below meth c s₁ Bd hml0 hP hK
  obtain ⟨rfl, hZ, hh⟩ := hP
  have hx := Bd.exec
  have hby := Bd.bytes
  have hml : c.maxLocals = 1 := hml0
  have hown : s.vm.findClass "com/example/chop/chop/compiler/MarkIsWaitingPinLaw" = some m.cls := findClass_of_methodNamed Bd.named
  have hnm := (name_of_methodNamed Bd.named Bd.method).1
  have X0 : Stand p l e ({ frames := 0, cells := 0, slots := 0, locals := 0 } : Room) s m #[(.int (3 : Int32))] below meth c s₁ [] 0 0 := Stand.of_body Bd
  have e0 : s₁.heap = h0 := by rw [← hh, Bd.state]; rfl
  have N0 := Fr.nil n0
  have pre0 : ∀ t, Steps p.tables e below (s₁.setTop (mkF m 0 #[.val (.int (3 : Int32))] [])) t → Steps p.tables e below (s₁.setTop (entryFrame m #[(.int (3 : Int32))] 1)) t := fun t k => castTop (ef_11 m ) k
  obtain ⟨T1, X1, e1, st1⟩ := getS2 X0 hx hZ hown (host := "") (Or.inl (hw _ (List.mem_of_getElem? (i := 32) rfl))) Via.refl e0 S_GREATER (g := (mkF m 31 #[.val (.int (3 : Int32))] [])) rfl (hb hby d11_31)
  have k2 : ∀ t, Steps p.tables e below (T1.setTop (mkF m 34 #[.val (.int (3 : Int32))] [(.ref u_GREATER)])) t → Steps p.tables e below (s₁.setTop (entryFrame m #[(.int (3 : Int32))] 1)) t := by
    intro t k
    refine pre0 t ?_
    show Steps p.tables e below (s₁.setTop (mkF m 0 #[.val (.int (3 : Int32))] [])) _
    refine XS.iloadN X0.here hx rfl (hb hby d11_0) rfl ?_
    show Steps p.tables e below (s₁.setTop (mkF m 1 #[.val (.int (3 : Int32))] [(.int (3 : Int32))])) _
    refine XS.ifYes X0.here hx rfl (pc0 := 1) (pc' := 8) rfl (hb hby d11_1) rfl ((if0 _ _).trans (feq (by decide : ¬ ((3 : Int32) = (0 : Int32)))).2) (by decide) (by decide) ?_
    show Steps p.tables e below (s₁.setTop (mkF m 8 #[.val (.int (3 : Int32))] [])) _
    refine XS.iloadN X0.here hx rfl (hb hby d11_8) rfl ?_
    show Steps p.tables e below (s₁.setTop (mkF m 9 #[.val (.int (3 : Int32))] [(.int (3 : Int32))])) _
    refine XS.iconst X0.here hx rfl (hb hby d11_9) ?_
    show Steps p.tables e below (s₁.setTop (mkF m 10 #[.val (.int (3 : Int32))] [(.int (1 : Int32)), (.int (3 : Int32))])) _
    refine XS.icmpYes X0.here hx rfl (pc0 := 10) (pc' := 17) rfl (hb hby d11_10) rfl (feq (by decide : ¬ ((3 : Int32) = (1 : Int32)))).2 (by decide) (by decide) ?_
    show Steps p.tables e below (s₁.setTop (mkF m 17 #[.val (.int (3 : Int32))] [])) _
    refine XS.iloadN X0.here hx rfl (hb hby d11_17) rfl ?_
    show Steps p.tables e below (s₁.setTop (mkF m 18 #[.val (.int (3 : Int32))] [(.int (3 : Int32))])) _
    refine XS.iconst X0.here hx rfl (hb hby d11_18) ?_
    show Steps p.tables e below (s₁.setTop (mkF m 19 #[.val (.int (3 : Int32))] [(.int (2 : Int32)), (.int (3 : Int32))])) _
    refine XS.icmpYes X0.here hx rfl (pc0 := 19) (pc' := 26) rfl (hb hby d11_19) rfl (feq (by decide : ¬ ((3 : Int32) = (2 : Int32)))).2 (by decide) (by decide) ?_
    show Steps p.tables e below (s₁.setTop (mkF m 26 #[.val (.int (3 : Int32))] [])) _
    refine XS.iloadN X0.here hx rfl (hb hby d11_26) rfl ?_
    show Steps p.tables e below (s₁.setTop (mkF m 27 #[.val (.int (3 : Int32))] [(.int (3 : Int32))])) _
    refine XS.iconst X0.here hx rfl (hb hby d11_27) ?_
    show Steps p.tables e below (s₁.setTop (mkF m 28 #[.val (.int (3 : Int32))] [(.int (3 : Int32)), (.int (3 : Int32))])) _
    refine XS.icmpNo X0.here hx rfl (hb hby d11_28) rfl (teq (by decide : (3 : Int32) = (3 : Int32))).2 ?_
    show Steps p.tables e below (s₁.setTop (mkF m 31 #[.val (.int (3 : Int32))] [])) _
    refine st1 _ ?_
    exact k
  obtain ⟨fs, hr, hrun, hended, hW, hsame⟩ := X1.leave (v := some (.ref u_GREATER)) (fun h => by rw [Bd.returns] at h; cases h)
  refine ⟨_, _, k2 _ ?_, hrun, hended, _, _, rfl, ?_, ⟨_, rfl⟩, hW, hsame.mono (by decide) (by decide)⟩
  · exact retOut X1 hx Bd.returns rfl (Or.inr (Or.inr (Or.inr (Or.inr ⟨rfl, rfl, rfl⟩)))) (hb hby d11_34) hr
  · show Q11 Z u_GREATER h0 n0 _ T1.heap _
    rw [e1]
    exact ⟨rfl, N0, rfl⟩
theorem d12_0 : decode prog_1_method_6_code 0 = .ok (.aload_n 0, 1) := by decide +kernel
theorem d12_1 : decode prog_1_method_6_code 1 = .ok (.getstatic 13, 3) := by decide +kernel
theorem d12_4 : decode prog_1_method_6_code 4 = .ok (.if_acmp .eq 10, 3) := by decide +kernel
theorem d12_14 : decode prog_1_method_6_code 14 = .ok (.iconst 1, 1) := by decide +kernel
theorem d12_15 : decode prog_1_method_6_code 15 = .ok (.goto 4, 3) := by decide +kernel
theorem d12_19 : decode prog_1_method_6_code 19 = .ok (.ireturn, 1) := by decide +kernel
theorem ef_12 (m : MethodId) (u_GREATER : Addr) : entryFrame m #[(.ref u_GREATER)] 1 = mkF m 0 #[.val (.ref u_GREATER)] [] := by first | (simp [entryFrame, mkF, argsToLocals, Value.category]; done) | rfl
def Q12 (Z : State) (u_GREATER : Addr) (h0 : Heap) (n0 : Nat) (v : Option Value) (h : Heap) (L : List Loc) : Prop := v = some (.int (1 : Int32)) ∧ Fr n0 L ∧ h = h0
set_option maxRecDepth 65536 in
set_option maxHeartbeats 40000000 in
theorem rm12 (l : Launch) (Z : State) (a0 : Array Value) (hw : ∀ d ∈ tables_1, d.before a0 Z = true) (ws : List Jvm.Cond) (u_GREATER : Addr) (h0 : Heap) (n0 : Nat) (Z0 : n0 ≤ h0.size) (S_GREATER : Sta Z h0 "com/example/chop/chop/compiler/Mark" "GREATER" "Lcom/example/chop/chop/compiler/Mark;" (.ref u_GREATER)) :
    MetFree l (⟨"com/example/chop/chop/compiler/Mark", "isWaiting", "()Z"⟩ : MethodName) (head1 (Jvm.Cond.code (⟨"com/example/chop/chop/compiler/Mark", "isWaiting", "()Z"⟩ : MethodName) prog_1_method_6_code 1 (some .boolean) :: ws) ({ frames := 0, cells := 0, slots := 0, locals := 0 } : Room)) (fun a U => a = #[(.ref u_GREATER)] ∧ Z.Warmed39 U.vm ∧ U.heap = h0) (fun _ _ _ _ _ => True) (fun _ U o U' => ∃ v L, o = .returned v ∧ Q12 Z u_GREATER h0 n0 v U'.heap L ∧ FrameEnd U o U' L ({ frames := 0, cells := 0, slots := 0, locals := 0 } : Room).cells ({ frames := 0, cells := 0, slots := 0, locals := 0 } : Room).slots) := by
  refine MetFree.of_bodySF (plainFor_of_name pn_0) hisR ?_
  intro p e s m args below meth c s₁ Bd hml0 hP hK
  obtain ⟨rfl, hZ, hh⟩ := hP
  have hx := Bd.exec
  have hby := Bd.bytes
  have hml : c.maxLocals = 1 := hml0
  have hown : s.vm.findClass "com/example/chop/chop/compiler/Mark" = some m.cls := findClass_of_methodNamed Bd.named
  have hnm := (name_of_methodNamed Bd.named Bd.method).1
  have X0 : Stand p l e ({ frames := 0, cells := 0, slots := 0, locals := 0 } : Room) s m #[(.ref u_GREATER)] below meth c s₁ [] 0 0 := Stand.of_body Bd
  have e0 : s₁.heap = h0 := by rw [← hh, Bd.state]; rfl
  have N0 := Fr.nil n0
  have pre0 : ∀ t, Steps p.tables e below (s₁.setTop (mkF m 0 #[.val (.ref u_GREATER)] [])) t → Steps p.tables e below (s₁.setTop (entryFrame m #[(.ref u_GREATER)] 1)) t := fun t k => castTop (ef_12 m u_GREATER) k
  obtain ⟨T1, X1, e1, st1⟩ := getS2 X0 hx hZ hown (host := "") (Or.inl (hw _ (List.mem_of_getElem? (i := 13) rfl))) Via.refl e0 S_GREATER (g := (mkF m 1 #[.val (.ref u_GREATER)] [(.ref u_GREATER)])) rfl (hb hby d12_1)
  have k2 : ∀ t, Steps p.tables e below (T1.setTop (mkF m 19 #[.val (.ref u_GREATER)] [(.int (1 : Int32))])) t → Steps p.tables e below (s₁.setTop (entryFrame m #[(.ref u_GREATER)] 1)) t := by
    intro t k
    refine pre0 t ?_
    show Steps p.tables e below (s₁.setTop (mkF m 0 #[.val (.ref u_GREATER)] [])) _
    refine XS.aloadN X0.here hx rfl (hb hby d12_0) rfl rfl ?_
    show Steps p.tables e below (s₁.setTop (mkF m 1 #[.val (.ref u_GREATER)] [(.ref u_GREATER)])) _
    refine st1 _ ?_
    show Steps p.tables e below (T1.setTop (mkF m 4 #[.val (.ref u_GREATER)] [(.ref u_GREATER), (.ref u_GREATER)])) _
    refine Jvm.RoadKit.acmp (g := (mkF m 4 #[.val (.ref u_GREATER)] [(.ref u_GREATER), (.ref u_GREATER)])) X1 hx rfl rfl rfl (pc0 := 4) (pc' := 14) (same := true) rfl (hb hby d12_4) rfl (decide_eq_true rfl) (by decide) (by decide) ?_
    show Steps p.tables e below (T1.setTop (mkF m 14 #[.val (.ref u_GREATER)] [])) _
    refine XS.iconst X1.here hx rfl (hb hby d12_14) ?_
    show Steps p.tables e below (T1.setTop (mkF m 15 #[.val (.ref u_GREATER)] [(.int (1 : Int32))])) _
    refine XS.goto X1.here hx rfl (pc0 := 15) (pc' := 19) rfl (hb hby d12_15) (by decide) (by decide) ?_
    exact k
  obtain ⟨fs, hr, hrun, hended, hW, hsame⟩ := X1.leave (v := some (.int (1 : Int32))) (fun h => by rw [Bd.returns] at h; cases h)
  refine ⟨_, _, k2 _ ?_, hrun, hended, _, _, rfl, ?_, ⟨_, rfl⟩, hW, hsame.mono (by decide) (by decide)⟩
  · exact retN X1 hx (t := .boolean) Bd.returns (by simp) (hb hby d12_19) hr
  · show Q12 Z u_GREATER h0 n0 _ T1.heap _
    rw [e1]
    exact ⟨rfl, N0, rfl⟩
theorem d13_0 : decode prog_1_method_5_code 0 = .ok (.aload_n 0, 1) := by decide +kernel
theorem d13_1 : decode prog_1_method_5_code 1 = .ok (.getstatic 3, 3) := by decide +kernel
theorem d13_4 : decode prog_1_method_5_code 4 = .ok (.if_acmp .eq 7, 3) := by decide +kernel
theorem d13_7 : decode prog_1_method_5_code 7 = .ok (.iconst 1, 1) := by decide +kernel
theorem d13_8 : decode prog_1_method_5_code 8 = .ok (.goto 4, 3) := by decide +kernel
theorem d13_12 : decode prog_1_method_5_code 12 = .ok (.ireturn, 1) := by decide +kernel
theorem ef_13 (m : MethodId) (u_GREATER : Addr) : entryFrame m #[(.ref u_GREATER)] 1 = mkF m 0 #[.val (.ref u_GREATER)] [] := by first | (simp [entryFrame, mkF, argsToLocals, Value.category]; done) | rfl
def Q13 (Z : State) (u_GREATER : Addr) (u_INACTIVE : Addr) (h0 : Heap) (n0 : Nat) (v : Option Value) (h : Heap) (L : List Loc) : Prop := v = some (.int (1 : Int32)) ∧ Fr n0 L ∧ h = h0
set_option maxRecDepth 65536 in
set_option maxHeartbeats 40000000 in
theorem rm13 (l : Launch) (Z : State) (a0 : Array Value) (hw : ∀ d ∈ tables_1, d.before a0 Z = true) (ws : List Jvm.Cond) (u_GREATER : Addr) (u_INACTIVE : Addr) (h0 : Heap) (n0 : Nat) (Z0 : n0 ≤ h0.size) (S_INACTIVE : Sta Z h0 "com/example/chop/chop/compiler/Mark" "INACTIVE" "Lcom/example/chop/chop/compiler/Mark;" (.ref u_INACTIVE)) (hne_INACTIVE : u_GREATER ≠ u_INACTIVE) :
    MetFree l (⟨"com/example/chop/chop/compiler/Mark", "isActive", "()Z"⟩ : MethodName) (head1 (Jvm.Cond.code (⟨"com/example/chop/chop/compiler/Mark", "isActive", "()Z"⟩ : MethodName) prog_1_method_5_code 1 (some .boolean) :: ws) ({ frames := 0, cells := 0, slots := 0, locals := 0 } : Room)) (fun a U => a = #[(.ref u_GREATER)] ∧ Z.Warmed39 U.vm ∧ U.heap = h0) (fun _ _ _ _ _ => True) (fun _ U o U' => ∃ v L, o = .returned v ∧ Q13 Z u_GREATER u_INACTIVE h0 n0 v U'.heap L ∧ FrameEnd U o U' L ({ frames := 0, cells := 0, slots := 0, locals := 0 } : Room).cells ({ frames := 0, cells := 0, slots := 0, locals := 0 } : Room).slots) := by
  refine MetFree.of_bodySF (plainFor_of_name pn_0) hisR ?_
  intro p e s m args below meth c s₁ Bd hml0 hP hK
  obtain ⟨rfl, hZ, hh⟩ := hP
  have hx := Bd.exec
  have hby := Bd.bytes
  have hml : c.maxLocals = 1 := hml0
  have hown : s.vm.findClass "com/example/chop/chop/compiler/Mark" = some m.cls := findClass_of_methodNamed Bd.named
  have hnm := (name_of_methodNamed Bd.named Bd.method).1
  have X0 : Stand p l e ({ frames := 0, cells := 0, slots := 0, locals := 0 } : Room) s m #[(.ref u_GREATER)] below meth c s₁ [] 0 0 := Stand.of_body Bd
  have e0 : s₁.heap = h0 := by rw [← hh, Bd.state]; rfl
  have N0 := Fr.nil n0
  have pre0 : ∀ t, Steps p.tables e below (s₁.setTop (mkF m 0 #[.val (.ref u_GREATER)] [])) t → Steps p.tables e below (s₁.setTop (entryFrame m #[(.ref u_GREATER)] 1)) t := fun t k => castTop (ef_13 m u_GREATER) k
  obtain ⟨T1, X1, e1, st1⟩ := getS2 X0 hx hZ hown (host := "") (Or.inl (hw _ (List.mem_of_getElem? (i := 63) rfl))) Via.refl e0 S_INACTIVE (g := (mkF m 1 #[.val (.ref u_GREATER)] [(.ref u_GREATER)])) rfl (hb hby d13_1)
  have k2 : ∀ t, Steps p.tables e below (T1.setTop (mkF m 12 #[.val (.ref u_GREATER)] [(.int (1 : Int32))])) t → Steps p.tables e below (s₁.setTop (entryFrame m #[(.ref u_GREATER)] 1)) t := by
    intro t k
    refine pre0 t ?_
    show Steps p.tables e below (s₁.setTop (mkF m 0 #[.val (.ref u_GREATER)] [])) _
    refine XS.aloadN X0.here hx rfl (hb hby d13_0) rfl rfl ?_
    show Steps p.tables e below (s₁.setTop (mkF m 1 #[.val (.ref u_GREATER)] [(.ref u_GREATER)])) _
    refine st1 _ ?_
    show Steps p.tables e below (T1.setTop (mkF m 4 #[.val (.ref u_GREATER)] [(.ref u_INACTIVE), (.ref u_GREATER)])) _
    refine Jvm.RoadKit.acmp (g := (mkF m 4 #[.val (.ref u_GREATER)] [(.ref u_INACTIVE), (.ref u_GREATER)])) X1 hx rfl rfl rfl (pc0 := 4) (pc' := 7) (same := false) rfl (hb hby d13_4) rfl (decide_eq_false fun q => hne_INACTIVE (Value.ref.inj q)) (by decide) (by decide) ?_
    show Steps p.tables e below (T1.setTop (mkF m 7 #[.val (.ref u_GREATER)] [])) _
    refine XS.iconst X1.here hx rfl (hb hby d13_7) ?_
    show Steps p.tables e below (T1.setTop (mkF m 8 #[.val (.ref u_GREATER)] [(.int (1 : Int32))])) _
    refine XS.goto X1.here hx rfl (pc0 := 8) (pc' := 12) rfl (hb hby d13_8) (by decide) (by decide) ?_
    exact k
  obtain ⟨fs, hr, hrun, hended, hW, hsame⟩ := X1.leave (v := some (.int (1 : Int32))) (fun h => by rw [Bd.returns] at h; cases h)
  refine ⟨_, _, k2 _ ?_, hrun, hended, _, _, rfl, ?_, ⟨_, rfl⟩, hW, hsame.mono (by decide) (by decide)⟩
  · exact retN X1 hx (t := .boolean) Bd.returns (by simp) (hb hby d13_12) hr
  · show Q13 Z u_GREATER u_INACTIVE h0 n0 _ T1.heap _
    rw [e1]
    exact ⟨rfl, N0, rfl⟩
theorem d14_0 : decode method_2_code 0 = .ok (.iload_n 0, 1) := by decide +kernel
theorem d14_1 : decode method_2_code 1 = .ok (.ifCond .ne 7, 3) := by decide +kernel
theorem d14_8 : decode method_2_code 8 = .ok (.iload_n 0, 1) := by decide +kernel
theorem d14_9 : decode method_2_code 9 = .ok (.iconst 1, 1) := by decide +kernel
theorem d14_10 : decode method_2_code 10 = .ok (.if_icmp .ne 7, 3) := by decide +kernel
theorem d14_17 : decode method_2_code 17 = .ok (.iload_n 0, 1) := by decide +kernel
theorem d14_18 : decode method_2_code 18 = .ok (.iconst 2, 1) := by decide +kernel
theorem d14_19 : decode method_2_code 19 = .ok (.if_icmp .ne 7, 3) := by decide +kernel
theorem d14_26 : decode method_2_code 26 = .ok (.iload_n 0, 1) := by decide +kernel
theorem d14_27 : decode method_2_code 27 = .ok (.iconst 3, 1) := by decide +kernel
theorem d14_28 : decode method_2_code 28 = .ok (.if_icmp .ne 7, 3) := by decide +kernel
theorem d14_35 : decode method_2_code 35 = .ok (.getstatic 22, 3) := by decide +kernel
theorem d14_38 : decode method_2_code 38 = .ok (.areturn, 1) := by decide +kernel
theorem ef_14 (m : MethodId)  : entryFrame m #[(.int (4 : Int32))] 1 = mkF m 0 #[.val (.int (4 : Int32))] [] := by first | (simp [entryFrame, mkF, argsToLocals, Value.category]; done) | rfl
def Q14 (Z : State) (u_GREATER_EQUAL : Addr) (h0 : Heap) (n0 : Nat) (v : Option Value) (h : Heap) (L : List Loc) : Prop := v = some (.ref u_GREATER_EQUAL) ∧ Fr n0 L ∧ h = h0
set_option maxRecDepth 65536 in
set_option maxHeartbeats 40000000 in
theorem rm14 (l : Launch) (Z : State) (a0 : Array Value) (hw : ∀ d ∈ tables_1, d.before a0 Z = true) (ws : List Jvm.Cond) (u_GREATER_EQUAL : Addr) (h0 : Heap) (n0 : Nat) (Z0 : n0 ≤ h0.size) (S_GREATER_EQUAL : Sta Z h0 "com/example/chop/chop/compiler/Mark" "GREATER_EQUAL" "Lcom/example/chop/chop/compiler/Mark;" (.ref u_GREATER_EQUAL)) :
    MetFree l (⟨"com/example/chop/chop/compiler/MarkIsWaitingPinLaw", "pick", "(I)Lcom/example/chop/chop/compiler/Mark;"⟩ : MethodName) (head1 (Jvm.Cond.code (⟨"com/example/chop/chop/compiler/MarkIsWaitingPinLaw", "pick", "(I)Lcom/example/chop/chop/compiler/Mark;"⟩ : MethodName) method_2_code 1 (some (.object "com/example/chop/chop/compiler/Mark")) :: ws) ({ frames := 0, cells := 0, slots := 0, locals := 0 } : Room)) (fun a U => a = #[(.int (4 : Int32))] ∧ Z.Warmed39 U.vm ∧ U.heap = h0) (fun _ _ _ _ _ => True) (fun _ U o U' => ∃ v L, o = .returned v ∧ Q14 Z u_GREATER_EQUAL h0 n0 v U'.heap L ∧ FrameEnd U o U' L ({ frames := 0, cells := 0, slots := 0, locals := 0 } : Room).cells ({ frames := 0, cells := 0, slots := 0, locals := 0 } : Room).slots) := by
  refine MetFree.of_bodySF (plainFor_of_name pn_1) hisR ?_
  intro p e s m args below meth c s₁ Bd hml0 hP hK
  obtain ⟨rfl, hZ, hh⟩ := hP
  have hx := Bd.exec
  have hby := Bd.bytes
  have hml : c.maxLocals = 1 := hml0
  have hown : s.vm.findClass "com/example/chop/chop/compiler/MarkIsWaitingPinLaw" = some m.cls := findClass_of_methodNamed Bd.named
  have hnm := (name_of_methodNamed Bd.named Bd.method).1
  have X0 : Stand p l e ({ frames := 0, cells := 0, slots := 0, locals := 0 } : Room) s m #[(.int (4 : Int32))] below meth c s₁ [] 0 0 := Stand.of_body Bd
  have e0 : s₁.heap = h0 := by rw [← hh, Bd.state]; rfl
  have N0 := Fr.nil n0
  have pre0 : ∀ t, Steps p.tables e below (s₁.setTop (mkF m 0 #[.val (.int (4 : Int32))] [])) t → Steps p.tables e below (s₁.setTop (entryFrame m #[(.int (4 : Int32))] 1)) t := fun t k => castTop (ef_14 m ) k
  obtain ⟨T1, X1, e1, st1⟩ := getS2 X0 hx hZ hown (host := "") (Or.inl (hw _ (List.mem_of_getElem? (i := 66) rfl))) Via.refl e0 S_GREATER_EQUAL (g := (mkF m 35 #[.val (.int (4 : Int32))] [])) rfl (hb hby d14_35)
  have k2 : ∀ t, Steps p.tables e below (T1.setTop (mkF m 38 #[.val (.int (4 : Int32))] [(.ref u_GREATER_EQUAL)])) t → Steps p.tables e below (s₁.setTop (entryFrame m #[(.int (4 : Int32))] 1)) t := by
    intro t k
    refine pre0 t ?_
    show Steps p.tables e below (s₁.setTop (mkF m 0 #[.val (.int (4 : Int32))] [])) _
    refine XS.iloadN X0.here hx rfl (hb hby d14_0) rfl ?_
    show Steps p.tables e below (s₁.setTop (mkF m 1 #[.val (.int (4 : Int32))] [(.int (4 : Int32))])) _
    refine XS.ifYes X0.here hx rfl (pc0 := 1) (pc' := 8) rfl (hb hby d14_1) rfl ((if0 _ _).trans (feq (by decide : ¬ ((4 : Int32) = (0 : Int32)))).2) (by decide) (by decide) ?_
    show Steps p.tables e below (s₁.setTop (mkF m 8 #[.val (.int (4 : Int32))] [])) _
    refine XS.iloadN X0.here hx rfl (hb hby d14_8) rfl ?_
    show Steps p.tables e below (s₁.setTop (mkF m 9 #[.val (.int (4 : Int32))] [(.int (4 : Int32))])) _
    refine XS.iconst X0.here hx rfl (hb hby d14_9) ?_
    show Steps p.tables e below (s₁.setTop (mkF m 10 #[.val (.int (4 : Int32))] [(.int (1 : Int32)), (.int (4 : Int32))])) _
    refine XS.icmpYes X0.here hx rfl (pc0 := 10) (pc' := 17) rfl (hb hby d14_10) rfl (feq (by decide : ¬ ((4 : Int32) = (1 : Int32)))).2 (by decide) (by decide) ?_
    show Steps p.tables e below (s₁.setTop (mkF m 17 #[.val (.int (4 : Int32))] [])) _
    refine XS.iloadN X0.here hx rfl (hb hby d14_17) rfl ?_
    show Steps p.tables e below (s₁.setTop (mkF m 18 #[.val (.int (4 : Int32))] [(.int (4 : Int32))])) _
    refine XS.iconst X0.here hx rfl (hb hby d14_18) ?_
    show Steps p.tables e below (s₁.setTop (mkF m 19 #[.val (.int (4 : Int32))] [(.int (2 : Int32)), (.int (4 : Int32))])) _
    refine XS.icmpYes X0.here hx rfl (pc0 := 19) (pc' := 26) rfl (hb hby d14_19) rfl (feq (by decide : ¬ ((4 : Int32) = (2 : Int32)))).2 (by decide) (by decide) ?_
    show Steps p.tables e below (s₁.setTop (mkF m 26 #[.val (.int (4 : Int32))] [])) _
    refine XS.iloadN X0.here hx rfl (hb hby d14_26) rfl ?_
    show Steps p.tables e below (s₁.setTop (mkF m 27 #[.val (.int (4 : Int32))] [(.int (4 : Int32))])) _
    refine XS.iconst X0.here hx rfl (hb hby d14_27) ?_
    show Steps p.tables e below (s₁.setTop (mkF m 28 #[.val (.int (4 : Int32))] [(.int (3 : Int32)), (.int (4 : Int32))])) _
    refine XS.icmpYes X0.here hx rfl (pc0 := 28) (pc' := 35) rfl (hb hby d14_28) rfl (feq (by decide : ¬ ((4 : Int32) = (3 : Int32)))).2 (by decide) (by decide) ?_
    show Steps p.tables e below (s₁.setTop (mkF m 35 #[.val (.int (4 : Int32))] [])) _
    refine st1 _ ?_
    exact k
  obtain ⟨fs, hr, hrun, hended, hW, hsame⟩ := X1.leave (v := some (.ref u_GREATER_EQUAL)) (fun h => by rw [Bd.returns] at h; cases h)
  refine ⟨_, _, k2 _ ?_, hrun, hended, _, _, rfl, ?_, ⟨_, rfl⟩, hW, hsame.mono (by decide) (by decide)⟩
  · exact retOut X1 hx Bd.returns rfl (Or.inr (Or.inr (Or.inr (Or.inr ⟨rfl, rfl, rfl⟩)))) (hb hby d14_38) hr
  · show Q14 Z u_GREATER_EQUAL h0 n0 _ T1.heap _
    rw [e1]
    exact ⟨rfl, N0, rfl⟩
theorem d15_0 : decode prog_1_method_6_code 0 = .ok (.aload_n 0, 1) := by decide +kernel
theorem d15_1 : decode prog_1_method_6_code 1 = .ok (.getstatic 13, 3) := by decide +kernel
theorem d15_4 : decode prog_1_method_6_code 4 = .ok (.if_acmp .eq 10, 3) := by decide +kernel
theorem d15_7 : decode prog_1_method_6_code 7 = .ok (.aload_n 0, 1) := by decide +kernel
theorem d15_8 : decode prog_1_method_6_code 8 = .ok (.getstatic 16, 3) := by decide +kernel
theorem d15_11 : decode prog_1_method_6_code 11 = .ok (.if_acmp .ne 7, 3) := by decide +kernel
theorem d15_14 : decode prog_1_method_6_code 14 = .ok (.iconst 1, 1) := by decide +kernel
theorem d15_15 : decode prog_1_method_6_code 15 = .ok (.goto 4, 3) := by decide +kernel
theorem d15_19 : decode prog_1_method_6_code 19 = .ok (.ireturn, 1) := by decide +kernel
theorem ef_15 (m : MethodId) (u_GREATER_EQUAL : Addr) : entryFrame m #[(.ref u_GREATER_EQUAL)] 1 = mkF m 0 #[.val (.ref u_GREATER_EQUAL)] [] := by first | (simp [entryFrame, mkF, argsToLocals, Value.category]; done) | rfl
def Q15 (Z : State) (u_GREATER_EQUAL : Addr) (u_GREATER : Addr) (h0 : Heap) (n0 : Nat) (v : Option Value) (h : Heap) (L : List Loc) : Prop := v = some (.int (1 : Int32)) ∧ Fr n0 L ∧ h = h0
set_option maxRecDepth 65536 in
set_option maxHeartbeats 40000000 in
theorem rm15 (l : Launch) (Z : State) (a0 : Array Value) (hw : ∀ d ∈ tables_1, d.before a0 Z = true) (ws : List Jvm.Cond) (u_GREATER_EQUAL : Addr) (u_GREATER : Addr) (h0 : Heap) (n0 : Nat) (Z0 : n0 ≤ h0.size) (S_GREATER : Sta Z h0 "com/example/chop/chop/compiler/Mark" "GREATER" "Lcom/example/chop/chop/compiler/Mark;" (.ref u_GREATER)) (S_GREATER_EQUAL : Sta Z h0 "com/example/chop/chop/compiler/Mark" "GREATER_EQUAL" "Lcom/example/chop/chop/compiler/Mark;" (.ref u_GREATER_EQUAL)) (hne_GREATER : u_GREATER_EQUAL ≠ u_GREATER) :
    MetFree l (⟨"com/example/chop/chop/compiler/Mark", "isWaiting", "()Z"⟩ : MethodName) (head1 (Jvm.Cond.code (⟨"com/example/chop/chop/compiler/Mark", "isWaiting", "()Z"⟩ : MethodName) prog_1_method_6_code 1 (some .boolean) :: ws) ({ frames := 0, cells := 0, slots := 0, locals := 0 } : Room)) (fun a U => a = #[(.ref u_GREATER_EQUAL)] ∧ Z.Warmed39 U.vm ∧ U.heap = h0) (fun _ _ _ _ _ => True) (fun _ U o U' => ∃ v L, o = .returned v ∧ Q15 Z u_GREATER_EQUAL u_GREATER h0 n0 v U'.heap L ∧ FrameEnd U o U' L ({ frames := 0, cells := 0, slots := 0, locals := 0 } : Room).cells ({ frames := 0, cells := 0, slots := 0, locals := 0 } : Room).slots) := by
  refine MetFree.of_bodySF (plainFor_of_name pn_0) hisR ?_
  intro p e s m args below meth c s₁ Bd hml0 hP hK
  obtain ⟨rfl, hZ, hh⟩ := hP
  have hx := Bd.exec
  have hby := Bd.bytes
  have hml : c.maxLocals = 1 := hml0
  have hown : s.vm.findClass "com/example/chop/chop/compiler/Mark" = some m.cls := findClass_of_methodNamed Bd.named
  have hnm := (name_of_methodNamed Bd.named Bd.method).1
  have X0 : Stand p l e ({ frames := 0, cells := 0, slots := 0, locals := 0 } : Room) s m #[(.ref u_GREATER_EQUAL)] below meth c s₁ [] 0 0 := Stand.of_body Bd
  have e0 : s₁.heap = h0 := by rw [← hh, Bd.state]; rfl
  have N0 := Fr.nil n0
  have pre0 : ∀ t, Steps p.tables e below (s₁.setTop (mkF m 0 #[.val (.ref u_GREATER_EQUAL)] [])) t → Steps p.tables e below (s₁.setTop (entryFrame m #[(.ref u_GREATER_EQUAL)] 1)) t := fun t k => castTop (ef_15 m u_GREATER_EQUAL) k
  obtain ⟨T1, X1, e1, st1⟩ := getS2 X0 hx hZ hown (host := "") (Or.inl (hw _ (List.mem_of_getElem? (i := 13) rfl))) Via.refl e0 S_GREATER (g := (mkF m 1 #[.val (.ref u_GREATER_EQUAL)] [(.ref u_GREATER_EQUAL)])) rfl (hb hby d15_1)
  obtain ⟨T2, X2, e2, st2⟩ := getS2 X1 hx hZ hown (host := "") (Or.inl (hw _ (List.mem_of_getElem? (i := 15) rfl))) Via.refl e1 S_GREATER_EQUAL (g := (mkF m 8 #[.val (.ref u_GREATER_EQUAL)] [(.ref u_GREATER_EQUAL)])) rfl (hb hby d15_8)
  have k3 : ∀ t, Steps p.tables e below (T2.setTop (mkF m 19 #[.val (.ref u_GREATER_EQUAL)] [(.int (1 : Int32))])) t → Steps p.tables e below (s₁.setTop (entryFrame m #[(.ref u_GREATER_EQUAL)] 1)) t := by
    intro t k
    refine pre0 t ?_
    show Steps p.tables e below (s₁.setTop (mkF m 0 #[.val (.ref u_GREATER_EQUAL)] [])) _
    refine XS.aloadN X0.here hx rfl (hb hby d15_0) rfl rfl ?_
    show Steps p.tables e below (s₁.setTop (mkF m 1 #[.val (.ref u_GREATER_EQUAL)] [(.ref u_GREATER_EQUAL)])) _
    refine st1 _ ?_
    show Steps p.tables e below (T1.setTop (mkF m 4 #[.val (.ref u_GREATER_EQUAL)] [(.ref u_GREATER), (.ref u_GREATER_EQUAL)])) _
    refine Jvm.RoadKit.acmp (g := (mkF m 4 #[.val (.ref u_GREATER_EQUAL)] [(.ref u_GREATER), (.ref u_GREATER_EQUAL)])) X1 hx rfl rfl rfl (pc0 := 4) (pc' := 7) (same := false) rfl (hb hby d15_4) rfl (decide_eq_false fun q => hne_GREATER (Value.ref.inj q)) (by decide) (by decide) ?_
    show Steps p.tables e below (T1.setTop (mkF m 7 #[.val (.ref u_GREATER_EQUAL)] [])) _
    refine XS.aloadN X1.here hx rfl (hb hby d15_7) rfl rfl ?_
    show Steps p.tables e below (T1.setTop (mkF m 8 #[.val (.ref u_GREATER_EQUAL)] [(.ref u_GREATER_EQUAL)])) _
    refine st2 _ ?_
    show Steps p.tables e below (T2.setTop (mkF m 11 #[.val (.ref u_GREATER_EQUAL)] [(.ref u_GREATER_EQUAL), (.ref u_GREATER_EQUAL)])) _
    refine Jvm.RoadKit.acmp (g := (mkF m 11 #[.val (.ref u_GREATER_EQUAL)] [(.ref u_GREATER_EQUAL), (.ref u_GREATER_EQUAL)])) X2 hx rfl rfl rfl (pc0 := 11) (pc' := 14) (same := true) rfl (hb hby d15_11) rfl (decide_eq_true rfl) (by decide) (by decide) ?_
    show Steps p.tables e below (T2.setTop (mkF m 14 #[.val (.ref u_GREATER_EQUAL)] [])) _
    refine XS.iconst X2.here hx rfl (hb hby d15_14) ?_
    show Steps p.tables e below (T2.setTop (mkF m 15 #[.val (.ref u_GREATER_EQUAL)] [(.int (1 : Int32))])) _
    refine XS.goto X2.here hx rfl (pc0 := 15) (pc' := 19) rfl (hb hby d15_15) (by decide) (by decide) ?_
    exact k
  obtain ⟨fs, hr, hrun, hended, hW, hsame⟩ := X2.leave (v := some (.int (1 : Int32))) (fun h => by rw [Bd.returns] at h; cases h)
  refine ⟨_, _, k3 _ ?_, hrun, hended, _, _, rfl, ?_, ⟨_, rfl⟩, hW, hsame.mono (by decide) (by decide)⟩
  · exact retN X2 hx (t := .boolean) Bd.returns (by simp) (hb hby d15_19) hr
  · show Q15 Z u_GREATER_EQUAL u_GREATER h0 n0 _ T2.heap _
    rw [e2]
    exact ⟨rfl, N0, rfl⟩
theorem d16_0 : decode prog_1_method_5_code 0 = .ok (.aload_n 0, 1) := by decide +kernel
theorem d16_1 : decode prog_1_method_5_code 1 = .ok (.getstatic 3, 3) := by decide +kernel
theorem d16_4 : decode prog_1_method_5_code 4 = .ok (.if_acmp .eq 7, 3) := by decide +kernel
theorem d16_7 : decode prog_1_method_5_code 7 = .ok (.iconst 1, 1) := by decide +kernel
theorem d16_8 : decode prog_1_method_5_code 8 = .ok (.goto 4, 3) := by decide +kernel
theorem d16_12 : decode prog_1_method_5_code 12 = .ok (.ireturn, 1) := by decide +kernel
theorem ef_16 (m : MethodId) (u_GREATER_EQUAL : Addr) : entryFrame m #[(.ref u_GREATER_EQUAL)] 1 = mkF m 0 #[.val (.ref u_GREATER_EQUAL)] [] := by first | (simp [entryFrame, mkF, argsToLocals, Value.category]; done) | rfl
def Q16 (Z : State) (u_GREATER_EQUAL : Addr) (u_INACTIVE : Addr) (h0 : Heap) (n0 : Nat) (v : Option Value) (h : Heap) (L : List Loc) : Prop := v = some (.int (1 : Int32)) ∧ Fr n0 L ∧ h = h0
set_option maxRecDepth 65536 in
set_option maxHeartbeats 40000000 in
theorem rm16 (l : Launch) (Z : State) (a0 : Array Value) (hw : ∀ d ∈ tables_1, d.before a0 Z = true) (ws : List Jvm.Cond) (u_GREATER_EQUAL : Addr) (u_INACTIVE : Addr) (h0 : Heap) (n0 : Nat) (Z0 : n0 ≤ h0.size) (S_INACTIVE : Sta Z h0 "com/example/chop/chop/compiler/Mark" "INACTIVE" "Lcom/example/chop/chop/compiler/Mark;" (.ref u_INACTIVE)) (hne_INACTIVE : u_GREATER_EQUAL ≠ u_INACTIVE) :
    MetFree l (⟨"com/example/chop/chop/compiler/Mark", "isActive", "()Z"⟩ : MethodName) (head1 (Jvm.Cond.code (⟨"com/example/chop/chop/compiler/Mark", "isActive", "()Z"⟩ : MethodName) prog_1_method_5_code 1 (some .boolean) :: ws) ({ frames := 0, cells := 0, slots := 0, locals := 0 } : Room)) (fun a U => a = #[(.ref u_GREATER_EQUAL)] ∧ Z.Warmed39 U.vm ∧ U.heap = h0) (fun _ _ _ _ _ => True) (fun _ U o U' => ∃ v L, o = .returned v ∧ Q16 Z u_GREATER_EQUAL u_INACTIVE h0 n0 v U'.heap L ∧ FrameEnd U o U' L ({ frames := 0, cells := 0, slots := 0, locals := 0 } : Room).cells ({ frames := 0, cells := 0, slots := 0, locals := 0 } : Room).slots) := by
  refine MetFree.of_bodySF (plainFor_of_name pn_0) hisR ?_
  intro p e s m args below meth c s₁ Bd hml0 hP hK
  obtain ⟨rfl, hZ, hh⟩ := hP
  have hx := Bd.exec
  have hby := Bd.bytes
  have hml : c.maxLocals = 1 := hml0
  have hown : s.vm.findClass "com/example/chop/chop/compiler/Mark" = some m.cls := findClass_of_methodNamed Bd.named
  have hnm := (name_of_methodNamed Bd.named Bd.method).1
  have X0 : Stand p l e ({ frames := 0, cells := 0, slots := 0, locals := 0 } : Room) s m #[(.ref u_GREATER_EQUAL)] below meth c s₁ [] 0 0 := Stand.of_body Bd
  have e0 : s₁.heap = h0 := by rw [← hh, Bd.state]; rfl
  have N0 := Fr.nil n0
  have pre0 : ∀ t, Steps p.tables e below (s₁.setTop (mkF m 0 #[.val (.ref u_GREATER_EQUAL)] [])) t → Steps p.tables e below (s₁.setTop (entryFrame m #[(.ref u_GREATER_EQUAL)] 1)) t := fun t k => castTop (ef_16 m u_GREATER_EQUAL) k
  obtain ⟨T1, X1, e1, st1⟩ := getS2 X0 hx hZ hown (host := "") (Or.inl (hw _ (List.mem_of_getElem? (i := 63) rfl))) Via.refl e0 S_INACTIVE (g := (mkF m 1 #[.val (.ref u_GREATER_EQUAL)] [(.ref u_GREATER_EQUAL)])) rfl (hb hby d16_1)
  have k2 : ∀ t, Steps p.tables e below (T1.setTop (mkF m 12 #[.val (.ref u_GREATER_EQUAL)] [(.int (1 : Int32))])) t → Steps p.tables e below (s₁.setTop (entryFrame m #[(.ref u_GREATER_EQUAL)] 1)) t := by
    intro t k
    refine pre0 t ?_
    show Steps p.tables e below (s₁.setTop (mkF m 0 #[.val (.ref u_GREATER_EQUAL)] [])) _
    refine XS.aloadN X0.here hx rfl (hb hby d16_0) rfl rfl ?_
    show Steps p.tables e below (s₁.setTop (mkF m 1 #[.val (.ref u_GREATER_EQUAL)] [(.ref u_GREATER_EQUAL)])) _
    refine st1 _ ?_
    show Steps p.tables e below (T1.setTop (mkF m 4 #[.val (.ref u_GREATER_EQUAL)] [(.ref u_INACTIVE), (.ref u_GREATER_EQUAL)])) _
    refine Jvm.RoadKit.acmp (g := (mkF m 4 #[.val (.ref u_GREATER_EQUAL)] [(.ref u_INACTIVE), (.ref u_GREATER_EQUAL)])) X1 hx rfl rfl rfl (pc0 := 4) (pc' := 7) (same := false) rfl (hb hby d16_4) rfl (decide_eq_false fun q => hne_INACTIVE (Value.ref.inj q)) (by decide) (by decide) ?_
    show Steps p.tables e below (T1.setTop (mkF m 7 #[.val (.ref u_GREATER_EQUAL)] [])) _
    refine XS.iconst X1.here hx rfl (hb hby d16_7) ?_
    show Steps p.tables e below (T1.setTop (mkF m 8 #[.val (.ref u_GREATER_EQUAL)] [(.int (1 : Int32))])) _
    refine XS.goto X1.here hx rfl (pc0 := 8) (pc' := 12) rfl (hb hby d16_8) (by decide) (by decide) ?_
    exact k
  obtain ⟨fs, hr, hrun, hended, hW, hsame⟩ := X1.leave (v := some (.int (1 : Int32))) (fun h => by rw [Bd.returns] at h; cases h)
  refine ⟨_, _, k2 _ ?_, hrun, hended, _, _, rfl, ?_, ⟨_, rfl⟩, hW, hsame.mono (by decide) (by decide)⟩
  · exact retN X1 hx (t := .boolean) Bd.returns (by simp) (hb hby d16_12) hr
  · show Q16 Z u_GREATER_EQUAL u_INACTIVE h0 n0 _ T1.heap _
    rw [e1]
    exact ⟨rfl, N0, rfl⟩
theorem pd_0 : parseMethodDescriptor "(I)Lcom/example/chop/chop/compiler/Mark;" = some ⟨[.int], some (.object "com/example/chop/chop/compiler/Mark")⟩ := by decide +kernel
theorem pd_1 : parseMethodDescriptor "()Z" = some ⟨[], some .boolean⟩ := by decide +kernel
theorem pd_2 : parseMethodDescriptor "()Ljava/lang/String;" = some ⟨[], some (.object "java/lang/String")⟩ := by decide +kernel
theorem pn_2 : plainName "java/lang/String" = true := by first | (simp [plainName, overriddenIn]; done) | decide +kernel
theorem ds1_0 : decode jdk_42_method_55_code 0 = .ok (.aload_n 0, 1) := by decide +kernel
theorem ds1_1 : decode jdk_42_method_55_code 1 = .ok (.getfield 9, 3) := by decide +kernel
theorem ds1_4 : decode jdk_42_method_55_code 4 = .ok (.arraylength, 1) := by decide +kernel
theorem ds1_5 : decode jdk_42_method_55_code 5 = .ok (.ifCond .ne 7, 3) := by decide +kernel
theorem ds1_8 : decode jdk_42_method_55_code 8 = .ok (.iconst 1, 1) := by decide +kernel
theorem ds1_9 : decode jdk_42_method_55_code 9 = .ok (.goto 4, 3) := by decide +kernel
theorem ds1_13 : decode jdk_42_method_55_code 13 = .ok (.ireturn, 1) := by decide +kernel
theorem ef_s1 (m : MethodId) (as1_0 : Addr) : entryFrame m #[(.ref as1_0)] 1 = mkF m 0 #[.val (.ref as1_0)] [] := by first | (simp [entryFrame, mkF, argsToLocals, Value.category]; done) | rfl
def Qs1 (Z : State) (as1_0 : Addr) (tt : Addr) (kk : ClassId) (h0 : Heap) (n0 : Nat) (v : Option Value) (h : Heap) (L : List Loc) : Prop := v = some (.int (1 : Int32)) ∧ Fr n0 L ∧ h = h0
set_option maxRecDepth 65536 in
set_option maxHeartbeats 40000000 in
theorem rms1 (l : Launch) (Z : State) (a0 : Array Value) (hw : ∀ d ∈ tables_1, d.before a0 Z = true) (ws : List Jvm.Cond) (as1_0 : Addr) (tt : Addr) (kk : ClassId) (h0 : Heap) (n0 : Nat) (Z0 : n0 ≤ h0.size) (Fv : Fld Z h0 as1_0 "java/lang/String" "value" "[B" (.ref tt)) (Vb : Arv Z h0 tt kk .byte (0 : Int32) [] (.int (0 : Int32))) :
    MetFree l (⟨"java/lang/String", "isEmpty", "()Z"⟩ : MethodName) (head1 (Jvm.Cond.code (⟨"java/lang/String", "isEmpty", "()Z"⟩ : MethodName) jdk_42_method_55_code 1 (some .boolean) :: ws) ({ frames := 0, cells := 0, slots := 0, locals := 0 } : Room)) (fun a U => a = #[(.ref as1_0)] ∧ Z.Warmed39 U.vm ∧ U.heap = h0) (fun _ _ _ _ _ => True) (fun _ U o U' => ∃ v L, o = .returned v ∧ Qs1 Z as1_0 tt kk h0 n0 v U'.heap L ∧ FrameEnd U o U' L ({ frames := 0, cells := 0, slots := 0, locals := 0 } : Room).cells ({ frames := 0, cells := 0, slots := 0, locals := 0 } : Room).slots) := by
  refine MetFree.of_bodySF (plainFor_of_name pn_2) hisR ?_
  intro p e s m args below meth c s₁ Bd hml0 hP hK
  obtain ⟨rfl, hZ, hh⟩ := hP
  have hx := Bd.exec
  have hby := Bd.bytes
  have hml : c.maxLocals = 1 := hml0
  have hown : s.vm.findClass "java/lang/String" = some m.cls := findClass_of_methodNamed Bd.named
  have hnm := (name_of_methodNamed Bd.named Bd.method).1
  have X0 : Stand p l e ({ frames := 0, cells := 0, slots := 0, locals := 0 } : Room) s m #[(.ref as1_0)] below meth c s₁ [] 0 0 := Stand.of_body Bd
  have e0 : s₁.heap = h0 := by rw [← hh, Bd.state]; rfl
  have N0 := Fr.nil n0
  have pre0 : ∀ t, Steps p.tables e below (s₁.setTop (mkF m 0 #[.val (.ref as1_0)] [])) t → Steps p.tables e below (s₁.setTop (entryFrame m #[(.ref as1_0)] 1)) t := fun t k => castTop (ef_s1 m as1_0) k
  obtain ⟨T1, X1, e1, st1⟩ := getF X0 hx hZ hown (host := "") (Or.inl (hw _ (List.mem_of_getElem? (i := 30) rfl))) Via.refl e0 Fv (g := (mkF m 1 #[.val (.ref as1_0)] [(.ref as1_0)])) rfl rfl (hb hby ds1_1)
  obtain ⟨cl2, Ar2, qc2, Sz2, Nn2, Hh2, Gg2⟩ := (id Vb)
  have k3 : ∀ t, Steps p.tables e below (T1.setTop (mkF m 13 #[.val (.ref as1_0)] [(.int (1 : Int32))])) t → Steps p.tables e below (s₁.setTop (entryFrame m #[(.ref as1_0)] 1)) t := by
    intro t k
    refine pre0 t ?_
    show Steps p.tables e below (s₁.setTop (mkF m 0 #[.val (.ref as1_0)] [])) _
    refine XS.aloadN X0.here hx rfl (hb hby ds1_0) rfl rfl ?_
    show Steps p.tables e below (s₁.setTop (mkF m 1 #[.val (.ref as1_0)] [(.ref as1_0)])) _
    refine st1 _ ?_
    show Steps p.tables e below (T1.setTop (mkF m 4 #[.val (.ref as1_0)] [(.ref tt)])) _
    refine X1.arraylength hx (by rw [e1]; exact Ar2.1) (State.isArrayOf_alike hZ.alike Ar2.2.1) (g := (mkF m 4 #[.val (.ref as1_0)] [(.ref tt)])) rfl rfl (hb hby ds1_4) _ ?_
    rw [len_of Sz2 Nn2]
    show Steps p.tables e below (T1.setTop (mkF m 5 #[.val (.ref as1_0)] [(.int (0 : Int32))])) _
    refine XS.ifNo X1.here hx rfl (hb hby ds1_5) rfl ((if0 _ _).trans (teq (by decide : (0 : Int32) = (0 : Int32))).2) ?_
    show Steps p.tables e below (T1.setTop (mkF m 8 #[.val (.ref as1_0)] [])) _
    refine XS.iconst X1.here hx rfl (hb hby ds1_8) ?_
    show Steps p.tables e below (T1.setTop (mkF m 9 #[.val (.ref as1_0)] [(.int (1 : Int32))])) _
    refine XS.goto X1.here hx rfl (pc0 := 9) (pc' := 13) rfl (hb hby ds1_9) (by decide) (by decide) ?_
    exact k
  obtain ⟨fs, hr, hrun, hended, hW, hsame⟩ := X1.leave (v := some (.int (1 : Int32))) (fun h => by rw [Bd.returns] at h; cases h)
  refine ⟨_, _, k3 _ ?_, hrun, hended, _, _, rfl, ?_, ⟨_, rfl⟩, hW, hsame.mono (by decide) (by decide)⟩
  · exact retN X1 hx (t := .boolean) Bd.returns (by simp) (hb hby ds1_13) hr
  · show Qs1 Z as1_0 tt kk h0 n0 _ T1.heap _
    rw [e1]
    exact ⟨rfl, N0, rfl⟩
theorem ds2_0 : decode jdk_42_method_55_code 0 = .ok (.aload_n 0, 1) := by decide +kernel
theorem ds2_1 : decode jdk_42_method_55_code 1 = .ok (.getfield 9, 3) := by decide +kernel
theorem ds2_4 : decode jdk_42_method_55_code 4 = .ok (.arraylength, 1) := by decide +kernel
theorem ds2_5 : decode jdk_42_method_55_code 5 = .ok (.ifCond .ne 7, 3) := by decide +kernel
theorem ds2_12 : decode jdk_42_method_55_code 12 = .ok (.iconst 0, 1) := by decide +kernel
theorem ds2_13 : decode jdk_42_method_55_code 13 = .ok (.ireturn, 1) := by decide +kernel
theorem ef_s2 (m : MethodId) (as2_0 : Addr) : entryFrame m #[(.ref as2_0)] 1 = mkF m 0 #[.val (.ref as2_0)] [] := by first | (simp [entryFrame, mkF, argsToLocals, Value.category]; done) | rfl
def Qs2 (Z : State) (as2_0 : Addr) (tt : Addr) (kk : ClassId) (h0 : Heap) (n0 : Nat) (v : Option Value) (h : Heap) (L : List Loc) : Prop := v = some (.int (0 : Int32)) ∧ Fr n0 L ∧ h = h0
set_option maxRecDepth 65536 in
set_option maxHeartbeats 40000000 in
theorem rms2 (l : Launch) (Z : State) (a0 : Array Value) (hw : ∀ d ∈ tables_1, d.before a0 Z = true) (ws : List Jvm.Cond) (as2_0 : Addr) (tt : Addr) (kk : ClassId) (h0 : Heap) (n0 : Nat) (Z0 : n0 ≤ h0.size) (Fv : Fld Z h0 as2_0 "java/lang/String" "value" "[B" (.ref tt)) (Vb : Arv Z h0 tt kk .byte (1 : Int32) [(.int (60 : Int32))] (.int (0 : Int32))) :
    MetFree l (⟨"java/lang/String", "isEmpty", "()Z"⟩ : MethodName) (head1 (Jvm.Cond.code (⟨"java/lang/String", "isEmpty", "()Z"⟩ : MethodName) jdk_42_method_55_code 1 (some .boolean) :: ws) ({ frames := 0, cells := 0, slots := 0, locals := 0 } : Room)) (fun a U => a = #[(.ref as2_0)] ∧ Z.Warmed39 U.vm ∧ U.heap = h0) (fun _ _ _ _ _ => True) (fun _ U o U' => ∃ v L, o = .returned v ∧ Qs2 Z as2_0 tt kk h0 n0 v U'.heap L ∧ FrameEnd U o U' L ({ frames := 0, cells := 0, slots := 0, locals := 0 } : Room).cells ({ frames := 0, cells := 0, slots := 0, locals := 0 } : Room).slots) := by
  refine MetFree.of_bodySF (plainFor_of_name pn_2) hisR ?_
  intro p e s m args below meth c s₁ Bd hml0 hP hK
  obtain ⟨rfl, hZ, hh⟩ := hP
  have hx := Bd.exec
  have hby := Bd.bytes
  have hml : c.maxLocals = 1 := hml0
  have hown : s.vm.findClass "java/lang/String" = some m.cls := findClass_of_methodNamed Bd.named
  have hnm := (name_of_methodNamed Bd.named Bd.method).1
  have X0 : Stand p l e ({ frames := 0, cells := 0, slots := 0, locals := 0 } : Room) s m #[(.ref as2_0)] below meth c s₁ [] 0 0 := Stand.of_body Bd
  have e0 : s₁.heap = h0 := by rw [← hh, Bd.state]; rfl
  have N0 := Fr.nil n0
  have pre0 : ∀ t, Steps p.tables e below (s₁.setTop (mkF m 0 #[.val (.ref as2_0)] [])) t → Steps p.tables e below (s₁.setTop (entryFrame m #[(.ref as2_0)] 1)) t := fun t k => castTop (ef_s2 m as2_0) k
  obtain ⟨T1, X1, e1, st1⟩ := getF X0 hx hZ hown (host := "") (Or.inl (hw _ (List.mem_of_getElem? (i := 30) rfl))) Via.refl e0 Fv (g := (mkF m 1 #[.val (.ref as2_0)] [(.ref as2_0)])) rfl rfl (hb hby ds2_1)
  obtain ⟨cl2, Ar2, qc2, Sz2, Nn2, Hh2, Gg2⟩ := (id Vb)
  have k3 : ∀ t, Steps p.tables e below (T1.setTop (mkF m 13 #[.val (.ref as2_0)] [(.int (0 : Int32))])) t → Steps p.tables e below (s₁.setTop (entryFrame m #[(.ref as2_0)] 1)) t := by
    intro t k
    refine pre0 t ?_
    show Steps p.tables e below (s₁.setTop (mkF m 0 #[.val (.ref as2_0)] [])) _
    refine XS.aloadN X0.here hx rfl (hb hby ds2_0) rfl rfl ?_
    show Steps p.tables e below (s₁.setTop (mkF m 1 #[.val (.ref as2_0)] [(.ref as2_0)])) _
    refine st1 _ ?_
    show Steps p.tables e below (T1.setTop (mkF m 4 #[.val (.ref as2_0)] [(.ref tt)])) _
    refine X1.arraylength hx (by rw [e1]; exact Ar2.1) (State.isArrayOf_alike hZ.alike Ar2.2.1) (g := (mkF m 4 #[.val (.ref as2_0)] [(.ref tt)])) rfl rfl (hb hby ds2_4) _ ?_
    rw [len_of Sz2 Nn2]
    show Steps p.tables e below (T1.setTop (mkF m 5 #[.val (.ref as2_0)] [(.int (1 : Int32))])) _
    refine XS.ifYes X1.here hx rfl (pc0 := 5) (pc' := 12) rfl (hb hby ds2_5) rfl ((if0 _ _).trans (feq (by decide : ¬ ((1 : Int32) = (0 : Int32)))).2) (by decide) (by decide) ?_
    show Steps p.tables e below (T1.setTop (mkF m 12 #[.val (.ref as2_0)] [])) _
    refine XS.iconst X1.here hx rfl (hb hby ds2_12) ?_
    exact k
  obtain ⟨fs, hr, hrun, hended, hW, hsame⟩ := X1.leave (v := some (.int (0 : Int32))) (fun h => by rw [Bd.returns] at h; cases h)
  refine ⟨_, _, k3 _ ?_, hrun, hended, _, _, rfl, ?_, ⟨_, rfl⟩, hW, hsame.mono (by decide) (by decide)⟩
  · exact retN X1 hx (t := .boolean) Bd.returns (by simp) (hb hby ds2_13) hr
  · show Qs2 Z as2_0 tt kk h0 n0 _ T1.heap _
    rw [e1]
    exact ⟨rfl, N0, rfl⟩
theorem ds3_0 : decode jdk_42_method_154_code 0 = .ok (.getstatic 38, 3) := by decide +kernel
theorem ds3_3 : decode jdk_42_method_154_code 3 = .ok (.ifCond .eq 14, 3) := by decide +kernel
theorem ds3_6 : decode jdk_42_method_154_code 6 = .ok (.aload_n 0, 1) := by decide +kernel
theorem ds3_7 : decode jdk_42_method_154_code 7 = .ok (.getfield 15, 3) := by decide +kernel
theorem ds3_10 : decode jdk_42_method_154_code 10 = .ok (.ifCond .ne 7, 3) := by decide +kernel
theorem ds3_13 : decode jdk_42_method_154_code 13 = .ok (.iconst 1, 1) := by decide +kernel
theorem ds3_14 : decode jdk_42_method_154_code 14 = .ok (.goto 4, 3) := by decide +kernel
theorem ds3_18 : decode jdk_42_method_154_code 18 = .ok (.ireturn, 1) := by decide +kernel
theorem ef_s3 (m : MethodId) (as3_0 : Addr) : entryFrame m #[(.ref as3_0)] 1 = mkF m 0 #[.val (.ref as3_0)] [] := by first | (simp [entryFrame, mkF, argsToLocals, Value.category]; done) | rfl
def Qs3 (Z : State) (as3_0 : Addr) (cs : Int32) (h0 : Heap) (n0 : Nat) (v : Option Value) (h : Heap) (L : List Loc) : Prop := v = some (.int (1 : Int32)) ∧ Fr n0 L ∧ h = h0
set_option maxRecDepth 65536 in
set_option maxHeartbeats 40000000 in
theorem rms3 (l : Launch) (Z : State) (a0 : Array Value) (hw : ∀ d ∈ tables_1, d.before a0 Z = true) (ws : List Jvm.Cond) (as3_0 : Addr) (cs : Int32) (h0 : Heap) (n0 : Nat) (Z0 : n0 ≤ h0.size) (Sc : Sta Z h0 "java/lang/String" "COMPACT_STRINGS" "Z" (.int cs)) (Fc : Fld Z h0 as3_0 "java/lang/String" "coder" "B" (.int (0 : Int32))) (hcs : ¬ (cs = (0 : Int32))) :
    MetFree l (⟨"java/lang/String", "isLatin1", "()Z"⟩ : MethodName) (head1 (Jvm.Cond.code (⟨"java/lang/String", "isLatin1", "()Z"⟩ : MethodName) jdk_42_method_154_code 1 (some .boolean) :: ws) ({ frames := 0, cells := 0, slots := 0, locals := 0 } : Room)) (fun a U => a = #[(.ref as3_0)] ∧ Z.Warmed39 U.vm ∧ U.heap = h0) (fun _ _ _ _ _ => True) (fun _ U o U' => ∃ v L, o = .returned v ∧ Qs3 Z as3_0 cs h0 n0 v U'.heap L ∧ FrameEnd U o U' L ({ frames := 0, cells := 0, slots := 0, locals := 0 } : Room).cells ({ frames := 0, cells := 0, slots := 0, locals := 0 } : Room).slots) := by
  refine MetFree.of_bodySF (plainFor_of_name pn_2) hisR ?_
  intro p e s m args below meth c s₁ Bd hml0 hP hK
  obtain ⟨rfl, hZ, hh⟩ := hP
  have hx := Bd.exec
  have hby := Bd.bytes
  have hml : c.maxLocals = 1 := hml0
  have hown : s.vm.findClass "java/lang/String" = some m.cls := findClass_of_methodNamed Bd.named
  have hnm := (name_of_methodNamed Bd.named Bd.method).1
  have X0 : Stand p l e ({ frames := 0, cells := 0, slots := 0, locals := 0 } : Room) s m #[(.ref as3_0)] below meth c s₁ [] 0 0 := Stand.of_body Bd
  have e0 : s₁.heap = h0 := by rw [← hh, Bd.state]; rfl
  have N0 := Fr.nil n0
  have pre0 : ∀ t, Steps p.tables e below (s₁.setTop (mkF m 0 #[.val (.ref as3_0)] [])) t → Steps p.tables e below (s₁.setTop (entryFrame m #[(.ref as3_0)] 1)) t := fun t k => castTop (ef_s3 m as3_0) k
  obtain ⟨T1, X1, e1, st1⟩ := getS2 X0 hx hZ hown (host := "") (Or.inl (hw _ (List.mem_of_getElem? (i := 43) rfl))) Via.refl e0 Sc (g := (mkF m 0 #[.val (.ref as3_0)] [])) rfl (hb hby ds3_0)
  obtain ⟨T2, X2, e2, st2⟩ := getF X1 hx hZ hown (host := "") (Or.inl (hw _ (List.mem_of_getElem? (i := 44) rfl))) Via.refl e1 Fc (g := (mkF m 7 #[.val (.ref as3_0)] [(.ref as3_0)])) rfl rfl (hb hby ds3_7)
  have k3 : ∀ t, Steps p.tables e below (T2.setTop (mkF m 18 #[.val (.ref as3_0)] [(.int (1 : Int32))])) t → Steps p.tables e below (s₁.setTop (entryFrame m #[(.ref as3_0)] 1)) t := by
    intro t k
    refine pre0 t ?_
    show Steps p.tables e below (s₁.setTop (mkF m 0 #[.val (.ref as3_0)] [])) _
    refine st1 _ ?_
    show Steps p.tables e below (T1.setTop (mkF m 3 #[.val (.ref as3_0)] [(.int cs)])) _
    refine XS.ifNo X1.here hx rfl (hb hby ds3_3) rfl ((if0 _ _).trans (feq hcs).1) ?_
    show Steps p.tables e below (T1.setTop (mkF m 6 #[.val (.ref as3_0)] [])) _
    refine XS.aloadN X1.here hx rfl (hb hby ds3_6) rfl rfl ?_
    show Steps p.tables e below (T1.setTop (mkF m 7 #[.val (.ref as3_0)] [(.ref as3_0)])) _
    refine st2 _ ?_
    show Steps p.tables e below (T2.setTop (mkF m 10 #[.val (.ref as3_0)] [(.int (0 : Int32))])) _
    refine XS.ifNo X2.here hx rfl (hb hby ds3_10) rfl ((if0 _ _).trans (teq (by decide : (0 : Int32) = (0 : Int32))).2) ?_
    show Steps p.tables e below (T2.setTop (mkF m 13 #[.val (.ref as3_0)] [])) _
    refine XS.iconst X2.here hx rfl (hb hby ds3_13) ?_
    show Steps p.tables e below (T2.setTop (mkF m 14 #[.val (.ref as3_0)] [(.int (1 : Int32))])) _
    refine XS.goto X2.here hx rfl (pc0 := 14) (pc' := 18) rfl (hb hby ds3_14) (by decide) (by decide) ?_
    exact k
  obtain ⟨fs, hr, hrun, hended, hW, hsame⟩ := X2.leave (v := some (.int (1 : Int32))) (fun h => by rw [Bd.returns] at h; cases h)
  refine ⟨_, _, k3 _ ?_, hrun, hended, _, _, rfl, ?_, ⟨_, rfl⟩, hW, hsame.mono (by decide) (by decide)⟩
  · exact retN X2 hx (t := .boolean) Bd.returns (by simp) (hb hby ds3_18) hr
  · show Qs3 Z as3_0 cs h0 n0 _ T2.heap _
    rw [e2]
    exact ⟨rfl, N0, rfl⟩
theorem pn_3 : plainName "jdk/internal/util/Preconditions" = true := by first | (simp [plainName, overriddenIn]; done) | decide +kernel
theorem ds4_0 : decode jdk_41_method_11_code 0 = .ok (.iload_n 0, 1) := by decide +kernel
theorem ds4_1 : decode jdk_41_method_11_code 1 = .ok (.ifCond .lt 8, 3) := by decide +kernel
theorem ds4_4 : decode jdk_41_method_11_code 4 = .ok (.iload_n 0, 1) := by decide +kernel
theorem ds4_5 : decode jdk_41_method_11_code 5 = .ok (.iload_n 1, 1) := by decide +kernel
theorem ds4_6 : decode jdk_41_method_11_code 6 = .ok (.if_icmp .lt 10, 3) := by decide +kernel
theorem ds4_16 : decode jdk_41_method_11_code 16 = .ok (.iload_n 0, 1) := by decide +kernel
theorem ds4_17 : decode jdk_41_method_11_code 17 = .ok (.ireturn, 1) := by decide +kernel
theorem ef_s4 (m : MethodId) (ps4_0 : Int32) (ps4_1 : Int32) : entryFrame m #[(.int ps4_0), (.int ps4_1), .null] 3 = mkF m 0 #[.val (.int ps4_0), .val (.int ps4_1), .val .null] [] := by first | (simp [entryFrame, mkF, argsToLocals, Value.category]; done) | rfl
def Qs4 (Z : State) (ps4_0 : Int32) (ps4_1 : Int32) (h0 : Heap) (n0 : Nat) (v : Option Value) (h : Heap) (L : List Loc) : Prop := v = some (.int ps4_0) ∧ Fr n0 L ∧ h = h0
set_option maxRecDepth 65536 in
set_option maxHeartbeats 40000000 in
theorem rms4 (l : Launch) (Z : State) (a0 : Array Value) (hw : ∀ d ∈ tables_1, d.before a0 Z = true) (ws : List Jvm.Cond) (ps4_0 : Int32) (ps4_1 : Int32) (h0 : Heap) (n0 : Nat) (Z0 : n0 ≤ h0.size) (hq0 : ¬ (ps4_0 < (0 : Int32))) (hq1 : ps4_0 < ps4_1) :
    MetFree l (⟨"jdk/internal/util/Preconditions", "checkIndex", "(IILjava/util/function/BiFunction;)I"⟩ : MethodName) (head1 (Jvm.Cond.code (⟨"jdk/internal/util/Preconditions", "checkIndex", "(IILjava/util/function/BiFunction;)I"⟩ : MethodName) jdk_41_method_11_code 3 (some .int) :: ws) ({ frames := 0, cells := 0, slots := 0, locals := 0 } : Room)) (fun a U => a = #[(.int ps4_0), (.int ps4_1), .null] ∧ Z.Warmed39 U.vm ∧ U.heap = h0) (fun _ _ _ _ _ => True) (fun _ U o U' => ∃ v L, o = .returned v ∧ Qs4 Z ps4_0 ps4_1 h0 n0 v U'.heap L ∧ FrameEnd U o U' L ({ frames := 0, cells := 0, slots := 0, locals := 0 } : Room).cells ({ frames := 0, cells := 0, slots := 0, locals := 0 } : Room).slots) := by
  refine MetFree.of_bodySF (plainFor_of_name pn_3) hisR ?_
  intro p e s m args below meth c s₁ Bd hml0 hP hK
  obtain ⟨rfl, hZ, hh⟩ := hP
  have hx := Bd.exec
  have hby := Bd.bytes
  have hml : c.maxLocals = 3 := hml0
  have hown : s.vm.findClass "jdk/internal/util/Preconditions" = some m.cls := findClass_of_methodNamed Bd.named
  have hnm := (name_of_methodNamed Bd.named Bd.method).1
  have X0 : Stand p l e ({ frames := 0, cells := 0, slots := 0, locals := 0 } : Room) s m #[(.int ps4_0), (.int ps4_1), .null] below meth c s₁ [] 0 0 := Stand.of_body Bd
  have e0 : s₁.heap = h0 := by rw [← hh, Bd.state]; rfl
  have N0 := Fr.nil n0
  have pre0 : ∀ t, Steps p.tables e below (s₁.setTop (mkF m 0 #[.val (.int ps4_0), .val (.int ps4_1), .val .null] [])) t → Steps p.tables e below (s₁.setTop (entryFrame m #[(.int ps4_0), (.int ps4_1), .null] 3)) t := fun t k => castTop (ef_s4 m ps4_0 ps4_1) k
  have k1 : ∀ t, Steps p.tables e below (s₁.setTop (mkF m 17 #[.val (.int ps4_0), .val (.int ps4_1), .val .null] [(.int ps4_0)])) t → Steps p.tables e below (s₁.setTop (entryFrame m #[(.int ps4_0), (.int ps4_1), .null] 3)) t := by
    intro t k
    refine pre0 t ?_
    show Steps p.tables e below (s₁.setTop (mkF m 0 #[.val (.int ps4_0), .val (.int ps4_1), .val .null] [])) _
    refine XS.iloadN X0.here hx rfl (hb hby ds4_0) rfl ?_
    show Steps p.tables e below (s₁.setTop (mkF m 1 #[.val (.int ps4_0), .val (.int ps4_1), .val .null] [(.int ps4_0)])) _
    refine XS.ifNo X0.here hx rfl (hb hby ds4_1) rfl ((if0 _ _).trans (flt hq0).1) ?_
    show Steps p.tables e below (s₁.setTop (mkF m 4 #[.val (.int ps4_0), .val (.int ps4_1), .val .null] [])) _
    refine XS.iloadN X0.here hx rfl (hb hby ds4_4) rfl ?_
    show Steps p.tables e below (s₁.setTop (mkF m 5 #[.val (.int ps4_0), .val (.int ps4_1), .val .null] [(.int ps4_0)])) _
    refine XS.iloadN X0.here hx rfl (hb hby ds4_5) rfl ?_
    show Steps p.tables e below (s₁.setTop (mkF m 6 #[.val (.int ps4_0), .val (.int ps4_1), .val .null] [(.int ps4_1), (.int ps4_0)])) _
    refine XS.icmpYes X0.here hx rfl (pc0 := 6) (pc' := 16) rfl (hb hby ds4_6) rfl (tlt hq1).1 (by decide) (by decide) ?_
    show Steps p.tables e below (s₁.setTop (mkF m 16 #[.val (.int ps4_0), .val (.int ps4_1), .val .null] [])) _
    refine XS.iloadN X0.here hx rfl (hb hby ds4_16) rfl ?_
    exact k
  obtain ⟨fs, hr, hrun, hended, hW, hsame⟩ := X0.leave (v := some (.int ps4_0)) (fun h => by rw [Bd.returns] at h; cases h)
  refine ⟨_, _, k1 _ ?_, hrun, hended, _, _, rfl, ?_, ⟨_, rfl⟩, hW, hsame.mono (by decide) (by decide)⟩
  · exact retI X0 hx Bd.returns (hb hby ds4_17) hr
  · show Qs4 Z ps4_0 ps4_1 h0 n0 _ s₁.heap _
    rw [e0]
    exact ⟨rfl, N0, rfl⟩
theorem ds5_0 : decode jdk_41_method_11_code 0 = .ok (.iload_n 0, 1) := by decide +kernel
theorem ds5_1 : decode jdk_41_method_11_code 1 = .ok (.ifCond .lt 8, 3) := by decide +kernel
theorem ds5_4 : decode jdk_41_method_11_code 4 = .ok (.iload_n 0, 1) := by decide +kernel
theorem ds5_5 : decode jdk_41_method_11_code 5 = .ok (.iload_n 1, 1) := by decide +kernel
theorem ds5_6 : decode jdk_41_method_11_code 6 = .ok (.if_icmp .lt 10, 3) := by decide +kernel
theorem ds5_16 : decode jdk_41_method_11_code 16 = .ok (.iload_n 0, 1) := by decide +kernel
theorem ds5_17 : decode jdk_41_method_11_code 17 = .ok (.ireturn, 1) := by decide +kernel
theorem ef_s5 (m : MethodId) (ps5_0 : Int32) (ps5_1 : Int32) (as5_2 : Addr) : entryFrame m #[(.int ps5_0), (.int ps5_1), (.ref as5_2)] 3 = mkF m 0 #[.val (.int ps5_0), .val (.int ps5_1), .val (.ref as5_2)] [] := by first | (simp [entryFrame, mkF, argsToLocals, Value.category]; done) | rfl
def Qs5 (Z : State) (ps5_0 : Int32) (ps5_1 : Int32) (as5_2 : Addr) (h0 : Heap) (n0 : Nat) (v : Option Value) (h : Heap) (L : List Loc) : Prop := v = some (.int ps5_0) ∧ Fr n0 L ∧ h = h0
set_option maxRecDepth 65536 in
set_option maxHeartbeats 40000000 in
theorem rms5 (l : Launch) (Z : State) (a0 : Array Value) (hw : ∀ d ∈ tables_1, d.before a0 Z = true) (ws : List Jvm.Cond) (ps5_0 : Int32) (ps5_1 : Int32) (as5_2 : Addr) (h0 : Heap) (n0 : Nat) (Z0 : n0 ≤ h0.size) (hq0 : ¬ (ps5_0 < (0 : Int32))) (hq1 : ps5_0 < ps5_1) :
    MetFree l (⟨"jdk/internal/util/Preconditions", "checkIndex", "(IILjava/util/function/BiFunction;)I"⟩ : MethodName) (head1 (Jvm.Cond.code (⟨"jdk/internal/util/Preconditions", "checkIndex", "(IILjava/util/function/BiFunction;)I"⟩ : MethodName) jdk_41_method_11_code 3 (some .int) :: ws) ({ frames := 0, cells := 0, slots := 0, locals := 0 } : Room)) (fun a U => a = #[(.int ps5_0), (.int ps5_1), (.ref as5_2)] ∧ Z.Warmed39 U.vm ∧ U.heap = h0) (fun _ _ _ _ _ => True) (fun _ U o U' => ∃ v L, o = .returned v ∧ Qs5 Z ps5_0 ps5_1 as5_2 h0 n0 v U'.heap L ∧ FrameEnd U o U' L ({ frames := 0, cells := 0, slots := 0, locals := 0 } : Room).cells ({ frames := 0, cells := 0, slots := 0, locals := 0 } : Room).slots) := by
  refine MetFree.of_bodySF (plainFor_of_name pn_3) hisR ?_
  intro p e s m args below meth c s₁ Bd hml0 hP hK
  obtain ⟨rfl, hZ, hh⟩ := hP
  have hx := Bd.exec
  have hby := Bd.bytes
  have hml : c.maxLocals = 3 := hml0
  have hown : s.vm.findClass "jdk/internal/util/Preconditions" = some m.cls := findClass_of_methodNamed Bd.named
  have hnm := (name_of_methodNamed Bd.named Bd.method).1
  have X0 : Stand p l e ({ frames := 0, cells := 0, slots := 0, locals := 0 } : Room) s m #[(.int ps5_0), (.int ps5_1), (.ref as5_2)] below meth c s₁ [] 0 0 := Stand.of_body Bd
  have e0 : s₁.heap = h0 := by rw [← hh, Bd.state]; rfl
  have N0 := Fr.nil n0
  have pre0 : ∀ t, Steps p.tables e below (s₁.setTop (mkF m 0 #[.val (.int ps5_0), .val (.int ps5_1), .val (.ref as5_2)] [])) t → Steps p.tables e below (s₁.setTop (entryFrame m #[(.int ps5_0), (.int ps5_1), (.ref as5_2)] 3)) t := fun t k => castTop (ef_s5 m ps5_0 ps5_1 as5_2) k
  have k1 : ∀ t, Steps p.tables e below (s₁.setTop (mkF m 17 #[.val (.int ps5_0), .val (.int ps5_1), .val (.ref as5_2)] [(.int ps5_0)])) t → Steps p.tables e below (s₁.setTop (entryFrame m #[(.int ps5_0), (.int ps5_1), (.ref as5_2)] 3)) t := by
    intro t k
    refine pre0 t ?_
    show Steps p.tables e below (s₁.setTop (mkF m 0 #[.val (.int ps5_0), .val (.int ps5_1), .val (.ref as5_2)] [])) _
    refine XS.iloadN X0.here hx rfl (hb hby ds5_0) rfl ?_
    show Steps p.tables e below (s₁.setTop (mkF m 1 #[.val (.int ps5_0), .val (.int ps5_1), .val (.ref as5_2)] [(.int ps5_0)])) _
    refine XS.ifNo X0.here hx rfl (hb hby ds5_1) rfl ((if0 _ _).trans (flt hq0).1) ?_
    show Steps p.tables e below (s₁.setTop (mkF m 4 #[.val (.int ps5_0), .val (.int ps5_1), .val (.ref as5_2)] [])) _
    refine XS.iloadN X0.here hx rfl (hb hby ds5_4) rfl ?_
    show Steps p.tables e below (s₁.setTop (mkF m 5 #[.val (.int ps5_0), .val (.int ps5_1), .val (.ref as5_2)] [(.int ps5_0)])) _
    refine XS.iloadN X0.here hx rfl (hb hby ds5_5) rfl ?_
    show Steps p.tables e below (s₁.setTop (mkF m 6 #[.val (.int ps5_0), .val (.int ps5_1), .val (.ref as5_2)] [(.int ps5_1), (.int ps5_0)])) _
    refine XS.icmpYes X0.here hx rfl (pc0 := 6) (pc' := 16) rfl (hb hby ds5_6) rfl (tlt hq1).1 (by decide) (by decide) ?_
    show Steps p.tables e below (s₁.setTop (mkF m 16 #[.val (.int ps5_0), .val (.int ps5_1), .val (.ref as5_2)] [])) _
    refine XS.iloadN X0.here hx rfl (hb hby ds5_16) rfl ?_
    exact k
  obtain ⟨fs, hr, hrun, hended, hW, hsame⟩ := X0.leave (v := some (.int ps5_0)) (fun h => by rw [Bd.returns] at h; cases h)
  refine ⟨_, _, k1 _ ?_, hrun, hended, _, _, rfl, ?_, ⟨_, rfl⟩, hW, hsame.mono (by decide) (by decide)⟩
  · exact retI X0 hx Bd.returns (hb hby ds5_17) hr
  · show Qs5 Z ps5_0 ps5_1 as5_2 h0 n0 _ s₁.heap _
    rw [e0]
    exact ⟨rfl, N0, rfl⟩
theorem pd_3 : parseMethodDescriptor "(IILjava/util/function/BiFunction;)I" = some ⟨[.int, .int, (.object "java/util/function/BiFunction")], some .int⟩ := by decide +kernel
theorem ds6_0 : decode jdk_42_method_155_code 0 = .ok (.iload_n 0, 1) := by decide +kernel
theorem ds6_1 : decode jdk_42_method_155_code 1 = .ok (.iload_n 1, 1) := by decide +kernel
theorem ds6_2 : decode jdk_42_method_155_code 2 = .ok (.getstatic 1053, 3) := by decide +kernel
theorem ds6_5 : decode jdk_42_method_155_code 5 = .ok (.invokestatic 1059, 3) := by decide +kernel
theorem ds6_8 : decode jdk_42_method_155_code 8 = .ok (.pop, 1) := by decide +kernel
theorem ds6_9 : decode jdk_42_method_155_code 9 = .ok (.return_, 1) := by decide +kernel
theorem ef_s6 (m : MethodId) (ps6_0 : Int32) (ps6_1 : Int32) : entryFrame m #[(.int ps6_0), (.int ps6_1)] 2 = mkF m 0 #[.val (.int ps6_0), .val (.int ps6_1)] [] := by first | (simp [entryFrame, mkF, argsToLocals, Value.category]; done) | rfl
def Qs6 (Z : State) (ps6_0 : Int32) (ps6_1 : Int32) (fm : Value) (h0 : Heap) (n0 : Nat) (v : Option Value) (h : Heap) (L : List Loc) : Prop := v = none ∧ Fr n0 L ∧ h = h0
set_option maxRecDepth 65536 in
set_option maxHeartbeats 40000000 in
theorem rms6 (l : Launch) (Z : State) (a0 : Array Value) (hw : ∀ d ∈ tables_1, d.before a0 Z = true) (ws : List Jvm.Cond) (ps6_0 : Int32) (ps6_1 : Int32) (fm : Value) (h0 : Heap) (n0 : Nat) (Z0 : n0 ≤ h0.size) (Sf : Sta Z h0 "jdk/internal/util/Preconditions" "SIOOBE_FORMATTER" "Ljava/util/function/BiFunction;" fm) (hq0 : ¬ (ps6_0 < (0 : Int32))) (hq1 : ps6_0 < ps6_1) (hfm : fm.isRef = true) :
    MetFree l (⟨"java/lang/String", "checkIndex", "(II)V"⟩ : MethodName) (head1 (Jvm.Cond.code (⟨"java/lang/String", "checkIndex", "(II)V"⟩ : MethodName) jdk_42_method_155_code 2 none :: ws) ({ frames := 1, cells := 0, slots := 0, locals := 14 } : Room)) (fun a U => a = #[(.int ps6_0), (.int ps6_1)] ∧ Z.Warmed39 U.vm ∧ U.heap = h0) (fun _ _ _ _ _ => True) (fun _ U o U' => ∃ v L, o = .returned v ∧ Qs6 Z ps6_0 ps6_1 fm h0 n0 v U'.heap L ∧ FrameEnd U o U' L ({ frames := 1, cells := 0, slots := 0, locals := 14 } : Room).cells ({ frames := 1, cells := 0, slots := 0, locals := 14 } : Room).slots) := by
  refine MetFree.of_bodySF (plainFor_of_name pn_2) hisR ?_
  intro p e s m args below meth c s₁ Bd hml0 hP hK
  obtain ⟨rfl, hZ, hh⟩ := hP
  have hx := Bd.exec
  have hby := Bd.bytes
  have hml : c.maxLocals = 2 := hml0
  have hown : s.vm.findClass "java/lang/String" = some m.cls := findClass_of_methodNamed Bd.named
  have hnm := (name_of_methodNamed Bd.named Bd.method).1
  have X0 : Stand p l e ({ frames := 1, cells := 0, slots := 0, locals := 14 } : Room) s m #[(.int ps6_0), (.int ps6_1)] below meth c s₁ [] 0 0 := Stand.of_body Bd
  have e0 : s₁.heap = h0 := by rw [← hh, Bd.state]; rfl
  have N0 := Fr.nil n0
  have pre0 : ∀ t, Steps p.tables e below (s₁.setTop (mkF m 0 #[.val (.int ps6_0), .val (.int ps6_1)] [])) t → Steps p.tables e below (s₁.setTop (entryFrame m #[(.int ps6_0), (.int ps6_1)] 2)) t := fun t k => castTop (ef_s6 m ps6_0 ps6_1) k
  rcases ref_cases hfm with rfl | ⟨fa, rfl⟩
  · skip
    obtain ⟨T1, X1, e1, st1⟩ := getS2 X0 hx hZ hown (host := "") (Or.inl (hw _ (List.mem_of_getElem? (i := 53) rfl))) Via.refl e0 Sf (g := (mkF m 2 #[.val (.int ps6_0), .val (.int ps6_1)] [(.int ps6_1), (.int ps6_0)])) rfl (hb hby ds6_2)
    obtain ⟨_, _, ⟨T2, L2, k2, n2⟩, -, X2, ⟨Lc2, hQ2, l2, y2, z2⟩, st2⟩ := Jvm.LawKit.callS X1 hx (y := (⟨"jdk/internal/util/Preconditions", "checkIndex", "(IILjava/util/function/BiFunction;)I"⟩ : MethodName)) hown (mvT hZ (hw _ (List.mem_of_getElem? (i := 55) rfl))) (mvT hZ (hw _ (List.mem_of_getElem? (i := 56) rfl))) (mvT hZ (hw _ (List.mem_of_getElem? (i := 54) rfl))) (mvT hZ (hw _ (List.mem_of_getElem? (i := 57) rfl))) (by decide) (backOf (W := 0) (rms4 l Z a0 hw [] ps6_0 ps6_1 h0 n0 Z0 hq0 hq1) hZ (hw _ (List.mem_of_getElem? (i := 57) rfl)) (hw _ (List.mem_of_getElem? (i := 54) rfl)) (by decide) (by decide)) (g := (mkF m 5 #[.val (.int ps6_0), .val (.int ps6_1)] [.null, (.int ps6_1), (.int ps6_0)])) rfl (by rw [hml]; rfl) (argsL := [(.int ps6_0), (.int ps6_1), .null]) (rest := []) (lenOf pd_3 rfl) rfl (by show 2 * 0 + _ ≤ _; exact Nat.le_of_eq rfl) (hb hby ds6_5) (fun _ _ => ⟨rfl, e1, (by decide : 0 + 0 ≤ _), (by decide : 0 + 0 ≤ _)⟩)
    dsimp only [Pt.U, Pt.locs, Pt.cells, Pt.slots] at X2 l2 y2 z2 st2 hQ2
    subst l2 y2 z2
    obtain ⟨rfl, N2q, eh2⟩ := hQ2
    have N2 := Fr.app N0 N2q
    have k3 : ∀ t, Steps p.tables e below (T2.setTop (mkF m 9 #[.val (.int ps6_0), .val (.int ps6_1)] [])) t → Steps p.tables e below (s₁.setTop (entryFrame m #[(.int ps6_0), (.int ps6_1)] 2)) t := by
      intro t k
      refine pre0 t ?_
      show Steps p.tables e below (s₁.setTop (mkF m 0 #[.val (.int ps6_0), .val (.int ps6_1)] [])) _
      refine XS.iloadN X0.here hx rfl (hb hby ds6_0) rfl ?_
      show Steps p.tables e below (s₁.setTop (mkF m 1 #[.val (.int ps6_0), .val (.int ps6_1)] [(.int ps6_0)])) _
      refine XS.iloadN X0.here hx rfl (hb hby ds6_1) rfl ?_
      show Steps p.tables e below (s₁.setTop (mkF m 2 #[.val (.int ps6_0), .val (.int ps6_1)] [(.int ps6_1), (.int ps6_0)])) _
      refine st1 _ ?_
      show Steps p.tables e below (T1.setTop (mkF m 5 #[.val (.int ps6_0), .val (.int ps6_1)] [.null, (.int ps6_1), (.int ps6_0)])) _
      refine st2 _ ?_
      show Steps p.tables e below (T2.setTop (mkF m 8 #[.val (.int ps6_0), .val (.int ps6_1)] [(.int ps6_0)])) _
      refine XS.pop X2.here hx rfl (hb hby ds6_8) rfl rfl ?_
      exact k
    obtain ⟨fs, hr, hrun, hended, hW, hsame⟩ := X2.leave (v := none) (fun _ => rfl)
    refine ⟨_, _, k3 _ ?_, hrun, hended, _, _, rfl, ?_, ⟨_, rfl⟩, hW, hsame.mono (by decide) (by decide)⟩
    · exact X2.returnOut hx Bd.returns (hb hby ds6_9) hr
    · show Qs6 Z ps6_0 ps6_1 .null h0 n0 _ T2.heap _
      rw [eh2]
      exact ⟨rfl, N2, rfl⟩
  · skip
    obtain ⟨T4, X4, e4, st4⟩ := getS2 X0 hx hZ hown (host := "") (Or.inl (hw _ (List.mem_of_getElem? (i := 53) rfl))) Via.refl e0 Sf (g := (mkF m 2 #[.val (.int ps6_0), .val (.int ps6_1)] [(.int ps6_1), (.int ps6_0)])) rfl (hb hby ds6_2)
    obtain ⟨_, _, ⟨T5, L5, k5, n5⟩, -, X5, ⟨Lc5, hQ5, l5, y5, z5⟩, st5⟩ := Jvm.LawKit.callS X4 hx (y := (⟨"jdk/internal/util/Preconditions", "checkIndex", "(IILjava/util/function/BiFunction;)I"⟩ : MethodName)) hown (mvT hZ (hw _ (List.mem_of_getElem? (i := 55) rfl))) (mvT hZ (hw _ (List.mem_of_getElem? (i := 56) rfl))) (mvT hZ (hw _ (List.mem_of_getElem? (i := 54) rfl))) (mvT hZ (hw _ (List.mem_of_getElem? (i := 57) rfl))) (by decide) (backOf (W := 0) (rms5 l Z a0 hw [] ps6_0 ps6_1 fa h0 n0 Z0 hq0 hq1) hZ (hw _ (List.mem_of_getElem? (i := 57) rfl)) (hw _ (List.mem_of_getElem? (i := 54) rfl)) (by decide) (by decide)) (g := (mkF m 5 #[.val (.int ps6_0), .val (.int ps6_1)] [(.ref fa), (.int ps6_1), (.int ps6_0)])) rfl (by rw [hml]; rfl) (argsL := [(.int ps6_0), (.int ps6_1), (.ref fa)]) (rest := []) (lenOf pd_3 rfl) rfl (by show 2 * 0 + _ ≤ _; exact Nat.le_of_eq rfl) (hb hby ds6_5) (fun _ _ => ⟨rfl, e4, (by decide : 0 + 0 ≤ _), (by decide : 0 + 0 ≤ _)⟩)
    dsimp only [Pt.U, Pt.locs, Pt.cells, Pt.slots] at X5 l5 y5 z5 st5 hQ5
    subst l5 y5 z5
    obtain ⟨rfl, N5q, eh5⟩ := hQ5
    have N5 := Fr.app N0 N5q
    have k6 : ∀ t, Steps p.tables e below (T5.setTop (mkF m 9 #[.val (.int ps6_0), .val (.int ps6_1)] [])) t → Steps p.tables e below (s₁.setTop (entryFrame m #[(.int ps6_0), (.int ps6_1)] 2)) t := by
      intro t k
      refine pre0 t ?_
      show Steps p.tables e below (s₁.setTop (mkF m 0 #[.val (.int ps6_0), .val (.int ps6_1)] [])) _
      refine XS.iloadN X0.here hx rfl (hb hby ds6_0) rfl ?_
      show Steps p.tables e below (s₁.setTop (mkF m 1 #[.val (.int ps6_0), .val (.int ps6_1)] [(.int ps6_0)])) _
      refine XS.iloadN X0.here hx rfl (hb hby ds6_1) rfl ?_
      show Steps p.tables e below (s₁.setTop (mkF m 2 #[.val (.int ps6_0), .val (.int ps6_1)] [(.int ps6_1), (.int ps6_0)])) _
      refine st4 _ ?_
      show Steps p.tables e below (T4.setTop (mkF m 5 #[.val (.int ps6_0), .val (.int ps6_1)] [(.ref fa), (.int ps6_1), (.int ps6_0)])) _
      refine st5 _ ?_
      show Steps p.tables e below (T5.setTop (mkF m 8 #[.val (.int ps6_0), .val (.int ps6_1)] [(.int ps6_0)])) _
      refine XS.pop X5.here hx rfl (hb hby ds6_8) rfl rfl ?_
      exact k
    obtain ⟨fs, hr, hrun, hended, hW, hsame⟩ := X5.leave (v := none) (fun _ => rfl)
    refine ⟨_, _, k6 _ ?_, hrun, hended, _, _, rfl, ?_, ⟨_, rfl⟩, hW, hsame.mono (by decide) (by decide)⟩
    · exact X5.returnOut hx Bd.returns (hb hby ds6_9) hr
    · show Qs6 Z ps6_0 ps6_1 (.ref fa) h0 n0 _ T5.heap _
      rw [eh5]
      exact ⟨rfl, N5, rfl⟩
theorem pn_4 : plainName "java/lang/StringLatin1" = true := by first | (simp [plainName, overriddenIn]; done) | decide +kernel
theorem pd_4 : parseMethodDescriptor "(II)V" = some ⟨[.int, .int], none⟩ := by decide +kernel
theorem ds7_0 : decode jdk_43_method_2_code 0 = .ok (.iload_n 1, 1) := by decide +kernel
theorem ds7_1 : decode jdk_43_method_2_code 1 = .ok (.aload_n 0, 1) := by decide +kernel
theorem ds7_2 : decode jdk_43_method_2_code 2 = .ok (.arraylength, 1) := by decide +kernel
theorem ds7_3 : decode jdk_43_method_2_code 3 = .ok (.invokestatic 9, 3) := by decide +kernel
theorem ds7_6 : decode jdk_43_method_2_code 6 = .ok (.aload_n 0, 1) := by decide +kernel
theorem ds7_7 : decode jdk_43_method_2_code 7 = .ok (.iload_n 1, 1) := by decide +kernel
theorem ds7_8 : decode jdk_43_method_2_code 8 = .ok (.baload, 1) := by decide +kernel
theorem ds7_9 : decode jdk_43_method_2_code 9 = .ok (.sipush 255, 3) := by decide +kernel
theorem ds7_12 : decode jdk_43_method_2_code 12 = .ok (.iand, 1) := by decide +kernel
theorem ds7_13 : decode jdk_43_method_2_code 13 = .ok (.i2c, 1) := by decide +kernel
theorem ds7_14 : decode jdk_43_method_2_code 14 = .ok (.ireturn, 1) := by decide +kernel
theorem ef_s7 (m : MethodId) (as7_0 : Addr) : entryFrame m #[(.ref as7_0), (.int (0 : Int32))] 2 = mkF m 0 #[.val (.ref as7_0), .val (.int (0 : Int32))] [] := by first | (simp [entryFrame, mkF, argsToLocals, Value.category]; done) | rfl
def Qs7 (Z : State) (as7_0 : Addr) (kk : ClassId) (fm : Value) (h0 : Heap) (n0 : Nat) (v : Option Value) (h : Heap) (L : List Loc) : Prop := v = some (.int (60 : Int32)) ∧ Fr n0 L ∧ h = h0
set_option maxRecDepth 65536 in
set_option maxHeartbeats 40000000 in
theorem rms7 (l : Launch) (Z : State) (a0 : Array Value) (hw : ∀ d ∈ tables_1, d.before a0 Z = true) (ws : List Jvm.Cond) (as7_0 : Addr) (kk : ClassId) (fm : Value) (h0 : Heap) (n0 : Nat) (Z0 : n0 ≤ h0.size) (Vb : Arv Z h0 as7_0 kk .byte (1 : Int32) [(.int (60 : Int32))] (.int (0 : Int32))) (Sf : Sta Z h0 "jdk/internal/util/Preconditions" "SIOOBE_FORMATTER" "Ljava/util/function/BiFunction;" fm) (hfm : fm.isRef = true) :
    MetFree l (⟨"java/lang/StringLatin1", "charAt", "([BI)C"⟩ : MethodName) (head1 (Jvm.Cond.code (⟨"java/lang/StringLatin1", "charAt", "([BI)C"⟩ : MethodName) jdk_43_method_2_code 2 (some .char) :: ws) ({ frames := 2, cells := 0, slots := 0, locals := 27 } : Room)) (fun a U => a = #[(.ref as7_0), (.int (0 : Int32))] ∧ Z.Warmed39 U.vm ∧ U.heap = h0) (fun _ _ _ _ _ => True) (fun _ U o U' => ∃ v L, o = .returned v ∧ Qs7 Z as7_0 kk fm h0 n0 v U'.heap L ∧ FrameEnd U o U' L ({ frames := 2, cells := 0, slots := 0, locals := 27 } : Room).cells ({ frames := 2, cells := 0, slots := 0, locals := 27 } : Room).slots) := by
  refine MetFree.of_bodySF (plainFor_of_name pn_4) hisR ?_
  intro p e s m args below meth c s₁ Bd hml0 hP hK
  obtain ⟨rfl, hZ, hh⟩ := hP
  have hx := Bd.exec
  have hby := Bd.bytes
  have hml : c.maxLocals = 2 := hml0
  have hown : s.vm.findClass "java/lang/StringLatin1" = some m.cls := findClass_of_methodNamed Bd.named
  have hnm := (name_of_methodNamed Bd.named Bd.method).1
  have X0 : Stand p l e ({ frames := 2, cells := 0, slots := 0, locals := 27 } : Room) s m #[(.ref as7_0), (.int (0 : Int32))] below meth c s₁ [] 0 0 := Stand.of_body Bd
  have e0 : s₁.heap = h0 := by rw [← hh, Bd.state]; rfl
  have N0 := Fr.nil n0
  have pre0 : ∀ t, Steps p.tables e below (s₁.setTop (mkF m 0 #[.val (.ref as7_0), .val (.int (0 : Int32))] [])) t → Steps p.tables e below (s₁.setTop (entryFrame m #[(.ref as7_0), (.int (0 : Int32))] 2)) t := fun t k => castTop (ef_s7 m as7_0) k
  obtain ⟨cl1, Ar1, qc1, Sz1, Nn1, Hh1, Gg1⟩ := (id Vb)
  obtain ⟨_, _, ⟨T2, L2, k2, n2⟩, -, X2, ⟨Lc2, hQ2, l2, y2, z2⟩, st2⟩ := Jvm.LawKit.callS X0 hx (y := (⟨"java/lang/String", "checkIndex", "(II)V"⟩ : MethodName)) hown (mvT hZ (hw _ (List.mem_of_getElem? (i := 50) rfl))) (mvT hZ (hw _ (List.mem_of_getElem? (i := 51) rfl))) (mvT hZ (hw _ (List.mem_of_getElem? (i := 28) rfl))) (mvT hZ (hw _ (List.mem_of_getElem? (i := 52) rfl))) (by decide) (backOf (W := 0) (rms6 l Z a0 hw [] (0 : Int32) (1 : Int32) fm h0 n0 Z0 Sf (by decide : ¬ ((0 : Int32) < (0 : Int32))) (by decide : (0 : Int32) < (1 : Int32)) hfm) hZ (hw _ (List.mem_of_getElem? (i := 52) rfl)) (hw _ (List.mem_of_getElem? (i := 28) rfl)) (by decide) (by decide)) (g := (mkF m 3 #[.val (.ref as7_0), .val (.int (0 : Int32))] [(.int (1 : Int32)), (.int (0 : Int32))])) rfl (by rw [hml]; rfl) (argsL := [(.int (0 : Int32)), (.int (1 : Int32))]) (rest := []) (lenOf pd_4 rfl) rfl (by show 2 * 0 + _ ≤ _; exact Nat.le_of_eq rfl) (hb hby ds7_3) (fun _ _ => ⟨rfl, e0, (by decide : 0 + 0 ≤ _), (by decide : 0 + 0 ≤ _)⟩)
  dsimp only [Pt.U, Pt.locs, Pt.cells, Pt.slots] at X2 l2 y2 z2 st2 hQ2
  subst l2 y2 z2
  obtain ⟨rfl, N2q, eh2⟩ := hQ2
  have N2 := Fr.app N0 N2q
  obtain ⟨cl3, Ar3, qc3, Sz3, Nn3, Hh3, Gg3⟩ := (id Vb)
  have hin3 : ¬ ((0 : Int32) < 0 ∨ cl3.slots.size ≤ ((0 : Int32)).toNatClampNeg) := inb_of Sz3 ⟨by decide, by decide⟩
  have k4 : ∀ t, Steps p.tables e below (T2.setTop (mkF m 14 #[.val (.ref as7_0), .val (.int (0 : Int32))] [(.int (60 : Int32))])) t → Steps p.tables e below (s₁.setTop (entryFrame m #[(.ref as7_0), (.int (0 : Int32))] 2)) t := by
    intro t k
    refine pre0 t ?_
    show Steps p.tables e below (s₁.setTop (mkF m 0 #[.val (.ref as7_0), .val (.int (0 : Int32))] [])) _
    refine XS.iloadN X0.here hx rfl (hb hby ds7_0) rfl ?_
    show Steps p.tables e below (s₁.setTop (mkF m 1 #[.val (.ref as7_0), .val (.int (0 : Int32))] [(.int (0 : Int32))])) _
    refine XS.aloadN X0.here hx rfl (hb hby ds7_1) rfl rfl ?_
    show Steps p.tables e below (s₁.setTop (mkF m 2 #[.val (.ref as7_0), .val (.int (0 : Int32))] [(.ref as7_0), (.int (0 : Int32))])) _
    refine X0.arraylength hx (by rw [e0]; exact Ar1.1) (State.isArrayOf_alike hZ.alike Ar1.2.1) (g := (mkF m 2 #[.val (.ref as7_0), .val (.int (0 : Int32))] [(.ref as7_0), (.int (0 : Int32))])) rfl rfl (hb hby ds7_2) _ ?_
    rw [len_of Sz1 Nn1]
    show Steps p.tables e below (s₁.setTop (mkF m 3 #[.val (.ref as7_0), .val (.int (0 : Int32))] [(.int (1 : Int32)), (.int (0 : Int32))])) _
    refine st2 _ ?_
    show Steps p.tables e below (T2.setTop (mkF m 6 #[.val (.ref as7_0), .val (.int (0 : Int32))] [])) _
    refine XS.aloadN X2.here hx rfl (hb hby ds7_6) rfl rfl ?_
    show Steps p.tables e below (T2.setTop (mkF m 7 #[.val (.ref as7_0), .val (.int (0 : Int32))] [(.ref as7_0)])) _
    refine XS.iloadN X2.here hx rfl (hb hby ds7_7) rfl ?_
    show Steps p.tables e below (T2.setTop (mkF m 8 #[.val (.ref as7_0), .val (.int (0 : Int32))] [(.int (0 : Int32)), (.ref as7_0)])) _
    refine X2.baloadBytes hx (j := (0 : Int32)) (v := (.int (60 : Int32))) (by rw [eh2]; exact Ar3.1) (State.isArrayOf_alike hZ.alike Ar3.2.1) Ar3.2.2 hin3 (Hh3.at hin3 rfl) (g := (mkF m 8 #[.val (.ref as7_0), .val (.int (0 : Int32))] [(.int (0 : Int32)), (.ref as7_0)])) rfl rfl (hb hby ds7_8) _ ?_
    show Steps p.tables e below (T2.setTop (mkF m 9 #[.val (.ref as7_0), .val (.int (0 : Int32))] [(.int (60 : Int32))])) _
    refine XS.sipush X2.here hx rfl (hb hby ds7_9) ?_
    show Steps p.tables e below (T2.setTop (mkF m 12 #[.val (.ref as7_0), .val (.int (0 : Int32))] [(.int (255 : Int32)), (.int (60 : Int32))])) _
    refine XS.iand X2.here hx rfl (hb hby ds7_12) rfl ?_
    show Steps p.tables e below (T2.setTop (mkF m 13 #[.val (.ref as7_0), .val (.int (0 : Int32))] [(.int (60 : Int32))])) _
    refine XS.i2c X2.here hx rfl (hb hby ds7_13) rfl ?_
    exact k
  obtain ⟨fs, hr, hrun, hended, hW, hsame⟩ := X2.leave (v := some (.int (60 : Int32))) (fun h => by rw [Bd.returns] at h; cases h)
  refine ⟨_, _, k4 _ ?_, hrun, hended, _, _, rfl, ?_, ⟨_, rfl⟩, hW, hsame.mono (by decide) (by decide)⟩
  · exact retN X2 hx (t := .char) Bd.returns (by simp) (hb hby ds7_14) hr
  · show Qs7 Z as7_0 kk fm h0 n0 _ T2.heap _
    rw [eh2]
    exact ⟨rfl, N2, rfl⟩
theorem pd_5 : parseMethodDescriptor "([BI)C" = some ⟨[(.array .byte), .int], some .char⟩ := by decide +kernel
theorem ds8_0 : decode jdk_42_method_56_code 0 = .ok (.aload_n 0, 1) := by decide +kernel
theorem ds8_1 : decode jdk_42_method_56_code 1 = .ok (.invokevirtual 492, 3) := by decide +kernel
theorem ds8_4 : decode jdk_42_method_56_code 4 = .ok (.ifCond .eq 12, 3) := by decide +kernel
theorem ds8_7 : decode jdk_42_method_56_code 7 = .ok (.aload_n 0, 1) := by decide +kernel
theorem ds8_8 : decode jdk_42_method_56_code 8 = .ok (.getfield 9, 3) := by decide +kernel
theorem ds8_11 : decode jdk_42_method_56_code 11 = .ok (.iload_n 1, 1) := by decide +kernel
theorem ds8_12 : decode jdk_42_method_56_code 12 = .ok (.invokestatic 495, 3) := by decide +kernel
theorem ds8_15 : decode jdk_42_method_56_code 15 = .ok (.ireturn, 1) := by decide +kernel
theorem ef_s8 (m : MethodId) (as8_0 : Addr) : entryFrame m #[(.ref as8_0), (.int (0 : Int32))] 2 = mkF m 0 #[.val (.ref as8_0), .val (.int (0 : Int32))] [] := by first | (simp [entryFrame, mkF, argsToLocals, Value.category]; done) | rfl
def Qs8 (Z : State) (as8_0 : Addr) (tt : Addr) (kk : ClassId) (cs : Int32) (fm : Value) (h0 : Heap) (n0 : Nat) (v : Option Value) (h : Heap) (L : List Loc) : Prop := v = some (.int (60 : Int32)) ∧ Fr n0 L ∧ h = h0
set_option maxRecDepth 65536 in
set_option maxHeartbeats 40000000 in
theorem rms8 (l : Launch) (Z : State) (a0 : Array Value) (hw : ∀ d ∈ tables_1, d.before a0 Z = true) (ws : List Jvm.Cond) (as8_0 : Addr) (tt : Addr) (kk : ClassId) (cs : Int32) (fm : Value) (h0 : Heap) (n0 : Nat) (Z0 : n0 ≤ h0.size) (Es : Exa Z h0 as8_0 "java/lang/String") (Fv : Fld Z h0 as8_0 "java/lang/String" "value" "[B" (.ref tt)) (Fc : Fld Z h0 as8_0 "java/lang/String" "coder" "B" (.int (0 : Int32))) (Vb : Arv Z h0 tt kk .byte (1 : Int32) [(.int (60 : Int32))] (.int (0 : Int32))) (Sc : Sta Z h0 "java/lang/String" "COMPACT_STRINGS" "Z" (.int cs)) (Sf : Sta Z h0 "jdk/internal/util/Preconditions" "SIOOBE_FORMATTER" "Ljava/util/function/BiFunction;" fm) (hcs : ¬ (cs = (0 : Int32))) (hfm : fm.isRef = true) :
    MetFree l (⟨"java/lang/String", "charAt", "(I)C"⟩ : MethodName) (head1 (Jvm.Cond.code (⟨"java/lang/String", "charAt", "(I)C"⟩ : MethodName) jdk_42_method_56_code 2 (some .char) :: ws) ({ frames := 3, cells := 0, slots := 0, locals := 40 } : Room)) (fun a U => a = #[(.ref as8_0), (.int (0 : Int32))] ∧ Z.Warmed39 U.vm ∧ U.heap = h0) (fun _ _ _ _ _ => True) (fun _ U o U' => ∃ v L, o = .returned v ∧ Qs8 Z as8_0 tt kk cs fm h0 n0 v U'.heap L ∧ FrameEnd U o U' L ({ frames := 3, cells := 0, slots := 0, locals := 40 } : Room).cells ({ frames := 3, cells := 0, slots := 0, locals := 40 } : Room).slots) := by
  refine MetFree.of_bodySF (plainFor_of_name pn_2) hisR ?_
  intro p e s m args below meth c s₁ Bd hml0 hP hK
  obtain ⟨rfl, hZ, hh⟩ := hP
  have hx := Bd.exec
  have hby := Bd.bytes
  have hml : c.maxLocals = 2 := hml0
  have hown : s.vm.findClass "java/lang/String" = some m.cls := findClass_of_methodNamed Bd.named
  have hnm := (name_of_methodNamed Bd.named Bd.method).1
  have X0 : Stand p l e ({ frames := 3, cells := 0, slots := 0, locals := 40 } : Room) s m #[(.ref as8_0), (.int (0 : Int32))] below meth c s₁ [] 0 0 := Stand.of_body Bd
  have e0 : s₁.heap = h0 := by rw [← hh, Bd.state]; rfl
  have N0 := Fr.nil n0
  have pre0 : ∀ t, Steps p.tables e below (s₁.setTop (mkF m 0 #[.val (.ref as8_0), .val (.int (0 : Int32))] [])) t → Steps p.tables e below (s₁.setTop (entryFrame m #[(.ref as8_0), (.int (0 : Int32))] 2)) t := fun t k => castTop (ef_s8 m as8_0) k
  obtain ⟨cq1, kq1, q1a, q1b, q1c⟩ := isOf hZ e0 Es
  obtain ⟨_, _, ⟨T1, L1, k1, n1⟩, -, X1, ⟨Lc1, hQ1, l1, y1, z1⟩, st1⟩ := X0.virtualBack hx (y := (⟨"java/lang/String", "isLatin1", "()Z"⟩ : MethodName)) (z := (⟨"java/lang/String", "isLatin1", "()Z"⟩ : MethodName)) hown (mvT hZ (hw _ (List.mem_of_getElem? (i := 38) rfl))) (mvT hZ (hw _ (List.mem_of_getElem? (i := 39) rfl))) (notFace_of_selects (args := #[]) (mvT hZ (hw _ (List.mem_of_getElem? (i := 41) rfl)))) (mvT hZ (hw _ (List.mem_of_getElem? (i := 41) rfl))) (mvT hZ (hw _ (List.mem_of_getElem? (i := 40) rfl))) (by decide) (backOf (W := 0) (rms3 l Z a0 hw [] as8_0 cs h0 n0 Z0 Sc Fc hcs) hZ (hw _ (List.mem_of_getElem? (i := 42) rfl)) (hw _ (List.mem_of_getElem? (i := 28) rfl)) (by decide) (by decide)) q1a q1c (g := (mkF m 1 #[.val (.ref as8_0), .val (.int (0 : Int32))] [(.ref as8_0)])) rfl (by rw [hml]; rfl) (Steps.refl _) (argsL := []) (rest := []) (lenOf pd_1 rfl) rfl (by show 2 * 0 + _ ≤ _; exact Nat.le_of_eq rfl) (hb hby ds8_1) (fun _ _ => ⟨rfl, e0, (by decide : 0 + 0 ≤ _), (by decide : 0 + 0 ≤ _)⟩)
  dsimp only [Pt.U, Pt.locs, Pt.cells, Pt.slots] at X1 l1 y1 z1 st1 hQ1
  subst l1 y1 z1
  obtain ⟨rfl, N1q, eh1⟩ := hQ1
  have N1 := Fr.app N0 N1q
  obtain ⟨T2, X2, e2, st2⟩ := getF X1 hx hZ hown (host := "") (Or.inl (hw _ (List.mem_of_getElem? (i := 30) rfl))) Via.refl eh1 Fv (g := (mkF m 8 #[.val (.ref as8_0), .val (.int (0 : Int32))] [(.ref as8_0)])) rfl rfl (hb hby ds8_8)
  obtain ⟨_, _, ⟨T3, L3, k3, n3⟩, -, X3, ⟨Lc3, hQ3, l3, y3, z3⟩, st3⟩ := Jvm.LawKit.callS X2 hx (y := (⟨"java/lang/StringLatin1", "charAt", "([BI)C"⟩ : MethodName)) hown (mvT hZ (hw _ (List.mem_of_getElem? (i := 46) rfl))) (mvT hZ (hw _ (List.mem_of_getElem? (i := 47) rfl))) (mvT hZ (hw _ (List.mem_of_getElem? (i := 48) rfl))) (mvT hZ (hw _ (List.mem_of_getElem? (i := 49) rfl))) (by decide) (backOf (W := 0) (rms7 l Z a0 hw [] tt kk fm h0 n0 Z0 Vb Sf hfm) hZ (hw _ (List.mem_of_getElem? (i := 49) rfl)) (hw _ (List.mem_of_getElem? (i := 48) rfl)) (by decide) (by decide)) (g := (mkF m 12 #[.val (.ref as8_0), .val (.int (0 : Int32))] [(.int (0 : Int32)), (.ref tt)])) rfl (by rw [hml]; rfl) (argsL := [(.ref tt), (.int (0 : Int32))]) (rest := []) (lenOf pd_5 rfl) rfl (by show 2 * 0 + _ ≤ _; exact Nat.le_of_eq rfl) (hb hby ds8_12) (fun _ _ => ⟨rfl, e2, (by decide : 0 + 0 ≤ _), (by decide : 0 + 0 ≤ _)⟩)
  dsimp only [Pt.U, Pt.locs, Pt.cells, Pt.slots] at X3 l3 y3 z3 st3 hQ3
  subst l3 y3 z3
  obtain ⟨rfl, N3q, eh3⟩ := hQ3
  have N3 := Fr.app N1 N3q
  have k4 : ∀ t, Steps p.tables e below (T3.setTop (mkF m 15 #[.val (.ref as8_0), .val (.int (0 : Int32))] [(.int (60 : Int32))])) t → Steps p.tables e below (s₁.setTop (entryFrame m #[(.ref as8_0), (.int (0 : Int32))] 2)) t := by
    intro t k
    refine pre0 t ?_
    show Steps p.tables e below (s₁.setTop (mkF m 0 #[.val (.ref as8_0), .val (.int (0 : Int32))] [])) _
    refine XS.aloadN X0.here hx rfl (hb hby ds8_0) rfl rfl ?_
    show Steps p.tables e below (s₁.setTop (mkF m 1 #[.val (.ref as8_0), .val (.int (0 : Int32))] [(.ref as8_0)])) _
    refine st1.trans ?_
    show Steps p.tables e below (T1.setTop (mkF m 4 #[.val (.ref as8_0), .val (.int (0 : Int32))] [(.int (1 : Int32))])) _
    refine XS.ifNo X1.here hx rfl (hb hby ds8_4) rfl ((if0 _ _).trans (feq (by decide : ¬ ((1 : Int32) = (0 : Int32)))).1) ?_
    show Steps p.tables e below (T1.setTop (mkF m 7 #[.val (.ref as8_0), .val (.int (0 : Int32))] [])) _
    refine XS.aloadN X1.here hx rfl (hb hby ds8_7) rfl rfl ?_
    show Steps p.tables e below (T1.setTop (mkF m 8 #[.val (.ref as8_0), .val (.int (0 : Int32))] [(.ref as8_0)])) _
    refine st2 _ ?_
    show Steps p.tables e below (T2.setTop (mkF m 11 #[.val (.ref as8_0), .val (.int (0 : Int32))] [(.ref tt)])) _
    refine XS.iloadN X2.here hx rfl (hb hby ds8_11) rfl ?_
    show Steps p.tables e below (T2.setTop (mkF m 12 #[.val (.ref as8_0), .val (.int (0 : Int32))] [(.int (0 : Int32)), (.ref tt)])) _
    refine st3 _ ?_
    exact k
  obtain ⟨fs, hr, hrun, hended, hW, hsame⟩ := X3.leave (v := some (.int (60 : Int32))) (fun h => by rw [Bd.returns] at h; cases h)
  refine ⟨_, _, k4 _ ?_, hrun, hended, _, _, rfl, ?_, ⟨_, rfl⟩, hW, hsame.mono (by decide) (by decide)⟩
  · exact retN X3 hx (t := .char) Bd.returns (by simp) (hb hby ds8_15) hr
  · show Qs8 Z as8_0 tt kk cs fm h0 n0 _ T3.heap _
    rw [eh3]
    exact ⟨rfl, N3, rfl⟩
theorem pd_6 : parseMethodDescriptor "(I)C" = some ⟨[.int], some .char⟩ := by decide +kernel
theorem ds9_0 : decode jdk_42_method_55_code 0 = .ok (.aload_n 0, 1) := by decide +kernel
theorem ds9_1 : decode jdk_42_method_55_code 1 = .ok (.getfield 9, 3) := by decide +kernel
theorem ds9_4 : decode jdk_42_method_55_code 4 = .ok (.arraylength, 1) := by decide +kernel
theorem ds9_5 : decode jdk_42_method_55_code 5 = .ok (.ifCond .ne 7, 3) := by decide +kernel
theorem ds9_12 : decode jdk_42_method_55_code 12 = .ok (.iconst 0, 1) := by decide +kernel
theorem ds9_13 : decode jdk_42_method_55_code 13 = .ok (.ireturn, 1) := by decide +kernel
theorem ef_s9 (m : MethodId) (as9_0 : Addr) : entryFrame m #[(.ref as9_0)] 1 = mkF m 0 #[.val (.ref as9_0)] [] := by first | (simp [entryFrame, mkF, argsToLocals, Value.category]; done) | rfl
def Qs9 (Z : State) (as9_0 : Addr) (tt : Addr) (kk : ClassId) (h0 : Heap) (n0 : Nat) (v : Option Value) (h : Heap) (L : List Loc) : Prop := v = some (.int (0 : Int32)) ∧ Fr n0 L ∧ h = h0
set_option maxRecDepth 65536 in
set_option maxHeartbeats 40000000 in
theorem rms9 (l : Launch) (Z : State) (a0 : Array Value) (hw : ∀ d ∈ tables_1, d.before a0 Z = true) (ws : List Jvm.Cond) (as9_0 : Addr) (tt : Addr) (kk : ClassId) (h0 : Heap) (n0 : Nat) (Z0 : n0 ≤ h0.size) (Fv : Fld Z h0 as9_0 "java/lang/String" "value" "[B" (.ref tt)) (Vb : Arv Z h0 tt kk .byte (1 : Int32) [(.int (62 : Int32))] (.int (0 : Int32))) :
    MetFree l (⟨"java/lang/String", "isEmpty", "()Z"⟩ : MethodName) (head1 (Jvm.Cond.code (⟨"java/lang/String", "isEmpty", "()Z"⟩ : MethodName) jdk_42_method_55_code 1 (some .boolean) :: ws) ({ frames := 0, cells := 0, slots := 0, locals := 0 } : Room)) (fun a U => a = #[(.ref as9_0)] ∧ Z.Warmed39 U.vm ∧ U.heap = h0) (fun _ _ _ _ _ => True) (fun _ U o U' => ∃ v L, o = .returned v ∧ Qs9 Z as9_0 tt kk h0 n0 v U'.heap L ∧ FrameEnd U o U' L ({ frames := 0, cells := 0, slots := 0, locals := 0 } : Room).cells ({ frames := 0, cells := 0, slots := 0, locals := 0 } : Room).slots) := by
  refine MetFree.of_bodySF (plainFor_of_name pn_2) hisR ?_
  intro p e s m args below meth c s₁ Bd hml0 hP hK
  obtain ⟨rfl, hZ, hh⟩ := hP
  have hx := Bd.exec
  have hby := Bd.bytes
  have hml : c.maxLocals = 1 := hml0
  have hown : s.vm.findClass "java/lang/String" = some m.cls := findClass_of_methodNamed Bd.named
  have hnm := (name_of_methodNamed Bd.named Bd.method).1
  have X0 : Stand p l e ({ frames := 0, cells := 0, slots := 0, locals := 0 } : Room) s m #[(.ref as9_0)] below meth c s₁ [] 0 0 := Stand.of_body Bd
  have e0 : s₁.heap = h0 := by rw [← hh, Bd.state]; rfl
  have N0 := Fr.nil n0
  have pre0 : ∀ t, Steps p.tables e below (s₁.setTop (mkF m 0 #[.val (.ref as9_0)] [])) t → Steps p.tables e below (s₁.setTop (entryFrame m #[(.ref as9_0)] 1)) t := fun t k => castTop (ef_s9 m as9_0) k
  obtain ⟨T1, X1, e1, st1⟩ := getF X0 hx hZ hown (host := "") (Or.inl (hw _ (List.mem_of_getElem? (i := 30) rfl))) Via.refl e0 Fv (g := (mkF m 1 #[.val (.ref as9_0)] [(.ref as9_0)])) rfl rfl (hb hby ds9_1)
  obtain ⟨cl2, Ar2, qc2, Sz2, Nn2, Hh2, Gg2⟩ := (id Vb)
  have k3 : ∀ t, Steps p.tables e below (T1.setTop (mkF m 13 #[.val (.ref as9_0)] [(.int (0 : Int32))])) t → Steps p.tables e below (s₁.setTop (entryFrame m #[(.ref as9_0)] 1)) t := by
    intro t k
    refine pre0 t ?_
    show Steps p.tables e below (s₁.setTop (mkF m 0 #[.val (.ref as9_0)] [])) _
    refine XS.aloadN X0.here hx rfl (hb hby ds9_0) rfl rfl ?_
    show Steps p.tables e below (s₁.setTop (mkF m 1 #[.val (.ref as9_0)] [(.ref as9_0)])) _
    refine st1 _ ?_
    show Steps p.tables e below (T1.setTop (mkF m 4 #[.val (.ref as9_0)] [(.ref tt)])) _
    refine X1.arraylength hx (by rw [e1]; exact Ar2.1) (State.isArrayOf_alike hZ.alike Ar2.2.1) (g := (mkF m 4 #[.val (.ref as9_0)] [(.ref tt)])) rfl rfl (hb hby ds9_4) _ ?_
    rw [len_of Sz2 Nn2]
    show Steps p.tables e below (T1.setTop (mkF m 5 #[.val (.ref as9_0)] [(.int (1 : Int32))])) _
    refine XS.ifYes X1.here hx rfl (pc0 := 5) (pc' := 12) rfl (hb hby ds9_5) rfl ((if0 _ _).trans (feq (by decide : ¬ ((1 : Int32) = (0 : Int32)))).2) (by decide) (by decide) ?_
    show Steps p.tables e below (T1.setTop (mkF m 12 #[.val (.ref as9_0)] [])) _
    refine XS.iconst X1.here hx rfl (hb hby ds9_12) ?_
    exact k
  obtain ⟨fs, hr, hrun, hended, hW, hsame⟩ := X1.leave (v := some (.int (0 : Int32))) (fun h => by rw [Bd.returns] at h; cases h)
  refine ⟨_, _, k3 _ ?_, hrun, hended, _, _, rfl, ?_, ⟨_, rfl⟩, hW, hsame.mono (by decide) (by decide)⟩
  · exact retN X1 hx (t := .boolean) Bd.returns (by simp) (hb hby ds9_13) hr
  · show Qs9 Z as9_0 tt kk h0 n0 _ T1.heap _
    rw [e1]
    exact ⟨rfl, N0, rfl⟩
theorem ds10_0 : decode jdk_43_method_2_code 0 = .ok (.iload_n 1, 1) := by decide +kernel
theorem ds10_1 : decode jdk_43_method_2_code 1 = .ok (.aload_n 0, 1) := by decide +kernel
theorem ds10_2 : decode jdk_43_method_2_code 2 = .ok (.arraylength, 1) := by decide +kernel
theorem ds10_3 : decode jdk_43_method_2_code 3 = .ok (.invokestatic 9, 3) := by decide +kernel
theorem ds10_6 : decode jdk_43_method_2_code 6 = .ok (.aload_n 0, 1) := by decide +kernel
theorem ds10_7 : decode jdk_43_method_2_code 7 = .ok (.iload_n 1, 1) := by decide +kernel
theorem ds10_8 : decode jdk_43_method_2_code 8 = .ok (.baload, 1) := by decide +kernel
theorem ds10_9 : decode jdk_43_method_2_code 9 = .ok (.sipush 255, 3) := by decide +kernel
theorem ds10_12 : decode jdk_43_method_2_code 12 = .ok (.iand, 1) := by decide +kernel
theorem ds10_13 : decode jdk_43_method_2_code 13 = .ok (.i2c, 1) := by decide +kernel
theorem ds10_14 : decode jdk_43_method_2_code 14 = .ok (.ireturn, 1) := by decide +kernel
theorem ef_s10 (m : MethodId) (as10_0 : Addr) : entryFrame m #[(.ref as10_0), (.int (0 : Int32))] 2 = mkF m 0 #[.val (.ref as10_0), .val (.int (0 : Int32))] [] := by first | (simp [entryFrame, mkF, argsToLocals, Value.category]; done) | rfl
def Qs10 (Z : State) (as10_0 : Addr) (kk : ClassId) (fm : Value) (h0 : Heap) (n0 : Nat) (v : Option Value) (h : Heap) (L : List Loc) : Prop := v = some (.int (62 : Int32)) ∧ Fr n0 L ∧ h = h0
set_option maxRecDepth 65536 in
set_option maxHeartbeats 40000000 in
theorem rms10 (l : Launch) (Z : State) (a0 : Array Value) (hw : ∀ d ∈ tables_1, d.before a0 Z = true) (ws : List Jvm.Cond) (as10_0 : Addr) (kk : ClassId) (fm : Value) (h0 : Heap) (n0 : Nat) (Z0 : n0 ≤ h0.size) (Vb : Arv Z h0 as10_0 kk .byte (1 : Int32) [(.int (62 : Int32))] (.int (0 : Int32))) (Sf : Sta Z h0 "jdk/internal/util/Preconditions" "SIOOBE_FORMATTER" "Ljava/util/function/BiFunction;" fm) (hfm : fm.isRef = true) :
    MetFree l (⟨"java/lang/StringLatin1", "charAt", "([BI)C"⟩ : MethodName) (head1 (Jvm.Cond.code (⟨"java/lang/StringLatin1", "charAt", "([BI)C"⟩ : MethodName) jdk_43_method_2_code 2 (some .char) :: ws) ({ frames := 2, cells := 0, slots := 0, locals := 27 } : Room)) (fun a U => a = #[(.ref as10_0), (.int (0 : Int32))] ∧ Z.Warmed39 U.vm ∧ U.heap = h0) (fun _ _ _ _ _ => True) (fun _ U o U' => ∃ v L, o = .returned v ∧ Qs10 Z as10_0 kk fm h0 n0 v U'.heap L ∧ FrameEnd U o U' L ({ frames := 2, cells := 0, slots := 0, locals := 27 } : Room).cells ({ frames := 2, cells := 0, slots := 0, locals := 27 } : Room).slots) := by
  refine MetFree.of_bodySF (plainFor_of_name pn_4) hisR ?_
  intro p e s m args below meth c s₁ Bd hml0 hP hK
  obtain ⟨rfl, hZ, hh⟩ := hP
  have hx := Bd.exec
  have hby := Bd.bytes
  have hml : c.maxLocals = 2 := hml0
  have hown : s.vm.findClass "java/lang/StringLatin1" = some m.cls := findClass_of_methodNamed Bd.named
  have hnm := (name_of_methodNamed Bd.named Bd.method).1
  have X0 : Stand p l e ({ frames := 2, cells := 0, slots := 0, locals := 27 } : Room) s m #[(.ref as10_0), (.int (0 : Int32))] below meth c s₁ [] 0 0 := Stand.of_body Bd
  have e0 : s₁.heap = h0 := by rw [← hh, Bd.state]; rfl
  have N0 := Fr.nil n0
  have pre0 : ∀ t, Steps p.tables e below (s₁.setTop (mkF m 0 #[.val (.ref as10_0), .val (.int (0 : Int32))] [])) t → Steps p.tables e below (s₁.setTop (entryFrame m #[(.ref as10_0), (.int (0 : Int32))] 2)) t := fun t k => castTop (ef_s10 m as10_0) k
  obtain ⟨cl1, Ar1, qc1, Sz1, Nn1, Hh1, Gg1⟩ := (id Vb)
  obtain ⟨_, _, ⟨T2, L2, k2, n2⟩, -, X2, ⟨Lc2, hQ2, l2, y2, z2⟩, st2⟩ := Jvm.LawKit.callS X0 hx (y := (⟨"java/lang/String", "checkIndex", "(II)V"⟩ : MethodName)) hown (mvT hZ (hw _ (List.mem_of_getElem? (i := 50) rfl))) (mvT hZ (hw _ (List.mem_of_getElem? (i := 51) rfl))) (mvT hZ (hw _ (List.mem_of_getElem? (i := 28) rfl))) (mvT hZ (hw _ (List.mem_of_getElem? (i := 52) rfl))) (by decide) (backOf (W := 0) (rms6 l Z a0 hw [] (0 : Int32) (1 : Int32) fm h0 n0 Z0 Sf (by decide : ¬ ((0 : Int32) < (0 : Int32))) (by decide : (0 : Int32) < (1 : Int32)) hfm) hZ (hw _ (List.mem_of_getElem? (i := 52) rfl)) (hw _ (List.mem_of_getElem? (i := 28) rfl)) (by decide) (by decide)) (g := (mkF m 3 #[.val (.ref as10_0), .val (.int (0 : Int32))] [(.int (1 : Int32)), (.int (0 : Int32))])) rfl (by rw [hml]; rfl) (argsL := [(.int (0 : Int32)), (.int (1 : Int32))]) (rest := []) (lenOf pd_4 rfl) rfl (by show 2 * 0 + _ ≤ _; exact Nat.le_of_eq rfl) (hb hby ds10_3) (fun _ _ => ⟨rfl, e0, (by decide : 0 + 0 ≤ _), (by decide : 0 + 0 ≤ _)⟩)
  dsimp only [Pt.U, Pt.locs, Pt.cells, Pt.slots] at X2 l2 y2 z2 st2 hQ2
  subst l2 y2 z2
  obtain ⟨rfl, N2q, eh2⟩ := hQ2
  have N2 := Fr.app N0 N2q
  obtain ⟨cl3, Ar3, qc3, Sz3, Nn3, Hh3, Gg3⟩ := (id Vb)
  have hin3 : ¬ ((0 : Int32) < 0 ∨ cl3.slots.size ≤ ((0 : Int32)).toNatClampNeg) := inb_of Sz3 ⟨by decide, by decide⟩
  have k4 : ∀ t, Steps p.tables e below (T2.setTop (mkF m 14 #[.val (.ref as10_0), .val (.int (0 : Int32))] [(.int (62 : Int32))])) t → Steps p.tables e below (s₁.setTop (entryFrame m #[(.ref as10_0), (.int (0 : Int32))] 2)) t := by
    intro t k
    refine pre0 t ?_
    show Steps p.tables e below (s₁.setTop (mkF m 0 #[.val (.ref as10_0), .val (.int (0 : Int32))] [])) _
    refine XS.iloadN X0.here hx rfl (hb hby ds10_0) rfl ?_
    show Steps p.tables e below (s₁.setTop (mkF m 1 #[.val (.ref as10_0), .val (.int (0 : Int32))] [(.int (0 : Int32))])) _
    refine XS.aloadN X0.here hx rfl (hb hby ds10_1) rfl rfl ?_
    show Steps p.tables e below (s₁.setTop (mkF m 2 #[.val (.ref as10_0), .val (.int (0 : Int32))] [(.ref as10_0), (.int (0 : Int32))])) _
    refine X0.arraylength hx (by rw [e0]; exact Ar1.1) (State.isArrayOf_alike hZ.alike Ar1.2.1) (g := (mkF m 2 #[.val (.ref as10_0), .val (.int (0 : Int32))] [(.ref as10_0), (.int (0 : Int32))])) rfl rfl (hb hby ds10_2) _ ?_
    rw [len_of Sz1 Nn1]
    show Steps p.tables e below (s₁.setTop (mkF m 3 #[.val (.ref as10_0), .val (.int (0 : Int32))] [(.int (1 : Int32)), (.int (0 : Int32))])) _
    refine st2 _ ?_
    show Steps p.tables e below (T2.setTop (mkF m 6 #[.val (.ref as10_0), .val (.int (0 : Int32))] [])) _
    refine XS.aloadN X2.here hx rfl (hb hby ds10_6) rfl rfl ?_
    show Steps p.tables e below (T2.setTop (mkF m 7 #[.val (.ref as10_0), .val (.int (0 : Int32))] [(.ref as10_0)])) _
    refine XS.iloadN X2.here hx rfl (hb hby ds10_7) rfl ?_
    show Steps p.tables e below (T2.setTop (mkF m 8 #[.val (.ref as10_0), .val (.int (0 : Int32))] [(.int (0 : Int32)), (.ref as10_0)])) _
    refine X2.baloadBytes hx (j := (0 : Int32)) (v := (.int (62 : Int32))) (by rw [eh2]; exact Ar3.1) (State.isArrayOf_alike hZ.alike Ar3.2.1) Ar3.2.2 hin3 (Hh3.at hin3 rfl) (g := (mkF m 8 #[.val (.ref as10_0), .val (.int (0 : Int32))] [(.int (0 : Int32)), (.ref as10_0)])) rfl rfl (hb hby ds10_8) _ ?_
    show Steps p.tables e below (T2.setTop (mkF m 9 #[.val (.ref as10_0), .val (.int (0 : Int32))] [(.int (62 : Int32))])) _
    refine XS.sipush X2.here hx rfl (hb hby ds10_9) ?_
    show Steps p.tables e below (T2.setTop (mkF m 12 #[.val (.ref as10_0), .val (.int (0 : Int32))] [(.int (255 : Int32)), (.int (62 : Int32))])) _
    refine XS.iand X2.here hx rfl (hb hby ds10_12) rfl ?_
    show Steps p.tables e below (T2.setTop (mkF m 13 #[.val (.ref as10_0), .val (.int (0 : Int32))] [(.int (62 : Int32))])) _
    refine XS.i2c X2.here hx rfl (hb hby ds10_13) rfl ?_
    exact k
  obtain ⟨fs, hr, hrun, hended, hW, hsame⟩ := X2.leave (v := some (.int (62 : Int32))) (fun h => by rw [Bd.returns] at h; cases h)
  refine ⟨_, _, k4 _ ?_, hrun, hended, _, _, rfl, ?_, ⟨_, rfl⟩, hW, hsame.mono (by decide) (by decide)⟩
  · exact retN X2 hx (t := .char) Bd.returns (by simp) (hb hby ds10_14) hr
  · show Qs10 Z as10_0 kk fm h0 n0 _ T2.heap _
    rw [eh2]
    exact ⟨rfl, N2, rfl⟩
theorem ds11_0 : decode jdk_42_method_56_code 0 = .ok (.aload_n 0, 1) := by decide +kernel
theorem ds11_1 : decode jdk_42_method_56_code 1 = .ok (.invokevirtual 492, 3) := by decide +kernel
theorem ds11_4 : decode jdk_42_method_56_code 4 = .ok (.ifCond .eq 12, 3) := by decide +kernel
theorem ds11_7 : decode jdk_42_method_56_code 7 = .ok (.aload_n 0, 1) := by decide +kernel
theorem ds11_8 : decode jdk_42_method_56_code 8 = .ok (.getfield 9, 3) := by decide +kernel
theorem ds11_11 : decode jdk_42_method_56_code 11 = .ok (.iload_n 1, 1) := by decide +kernel
theorem ds11_12 : decode jdk_42_method_56_code 12 = .ok (.invokestatic 495, 3) := by decide +kernel
theorem ds11_15 : decode jdk_42_method_56_code 15 = .ok (.ireturn, 1) := by decide +kernel
theorem ef_s11 (m : MethodId) (as11_0 : Addr) : entryFrame m #[(.ref as11_0), (.int (0 : Int32))] 2 = mkF m 0 #[.val (.ref as11_0), .val (.int (0 : Int32))] [] := by first | (simp [entryFrame, mkF, argsToLocals, Value.category]; done) | rfl
def Qs11 (Z : State) (as11_0 : Addr) (tt : Addr) (kk : ClassId) (cs : Int32) (fm : Value) (h0 : Heap) (n0 : Nat) (v : Option Value) (h : Heap) (L : List Loc) : Prop := v = some (.int (62 : Int32)) ∧ Fr n0 L ∧ h = h0
set_option maxRecDepth 65536 in
set_option maxHeartbeats 40000000 in
theorem rms11 (l : Launch) (Z : State) (a0 : Array Value) (hw : ∀ d ∈ tables_1, d.before a0 Z = true) (ws : List Jvm.Cond) (as11_0 : Addr) (tt : Addr) (kk : ClassId) (cs : Int32) (fm : Value) (h0 : Heap) (n0 : Nat) (Z0 : n0 ≤ h0.size) (Es : Exa Z h0 as11_0 "java/lang/String") (Fv : Fld Z h0 as11_0 "java/lang/String" "value" "[B" (.ref tt)) (Fc : Fld Z h0 as11_0 "java/lang/String" "coder" "B" (.int (0 : Int32))) (Vb : Arv Z h0 tt kk .byte (1 : Int32) [(.int (62 : Int32))] (.int (0 : Int32))) (Sc : Sta Z h0 "java/lang/String" "COMPACT_STRINGS" "Z" (.int cs)) (Sf : Sta Z h0 "jdk/internal/util/Preconditions" "SIOOBE_FORMATTER" "Ljava/util/function/BiFunction;" fm) (hcs : ¬ (cs = (0 : Int32))) (hfm : fm.isRef = true) :
    MetFree l (⟨"java/lang/String", "charAt", "(I)C"⟩ : MethodName) (head1 (Jvm.Cond.code (⟨"java/lang/String", "charAt", "(I)C"⟩ : MethodName) jdk_42_method_56_code 2 (some .char) :: ws) ({ frames := 3, cells := 0, slots := 0, locals := 40 } : Room)) (fun a U => a = #[(.ref as11_0), (.int (0 : Int32))] ∧ Z.Warmed39 U.vm ∧ U.heap = h0) (fun _ _ _ _ _ => True) (fun _ U o U' => ∃ v L, o = .returned v ∧ Qs11 Z as11_0 tt kk cs fm h0 n0 v U'.heap L ∧ FrameEnd U o U' L ({ frames := 3, cells := 0, slots := 0, locals := 40 } : Room).cells ({ frames := 3, cells := 0, slots := 0, locals := 40 } : Room).slots) := by
  refine MetFree.of_bodySF (plainFor_of_name pn_2) hisR ?_
  intro p e s m args below meth c s₁ Bd hml0 hP hK
  obtain ⟨rfl, hZ, hh⟩ := hP
  have hx := Bd.exec
  have hby := Bd.bytes
  have hml : c.maxLocals = 2 := hml0
  have hown : s.vm.findClass "java/lang/String" = some m.cls := findClass_of_methodNamed Bd.named
  have hnm := (name_of_methodNamed Bd.named Bd.method).1
  have X0 : Stand p l e ({ frames := 3, cells := 0, slots := 0, locals := 40 } : Room) s m #[(.ref as11_0), (.int (0 : Int32))] below meth c s₁ [] 0 0 := Stand.of_body Bd
  have e0 : s₁.heap = h0 := by rw [← hh, Bd.state]; rfl
  have N0 := Fr.nil n0
  have pre0 : ∀ t, Steps p.tables e below (s₁.setTop (mkF m 0 #[.val (.ref as11_0), .val (.int (0 : Int32))] [])) t → Steps p.tables e below (s₁.setTop (entryFrame m #[(.ref as11_0), (.int (0 : Int32))] 2)) t := fun t k => castTop (ef_s11 m as11_0) k
  obtain ⟨cq1, kq1, q1a, q1b, q1c⟩ := isOf hZ e0 Es
  obtain ⟨_, _, ⟨T1, L1, k1, n1⟩, -, X1, ⟨Lc1, hQ1, l1, y1, z1⟩, st1⟩ := X0.virtualBack hx (y := (⟨"java/lang/String", "isLatin1", "()Z"⟩ : MethodName)) (z := (⟨"java/lang/String", "isLatin1", "()Z"⟩ : MethodName)) hown (mvT hZ (hw _ (List.mem_of_getElem? (i := 38) rfl))) (mvT hZ (hw _ (List.mem_of_getElem? (i := 39) rfl))) (notFace_of_selects (args := #[]) (mvT hZ (hw _ (List.mem_of_getElem? (i := 41) rfl)))) (mvT hZ (hw _ (List.mem_of_getElem? (i := 41) rfl))) (mvT hZ (hw _ (List.mem_of_getElem? (i := 40) rfl))) (by decide) (backOf (W := 0) (rms3 l Z a0 hw [] as11_0 cs h0 n0 Z0 Sc Fc hcs) hZ (hw _ (List.mem_of_getElem? (i := 42) rfl)) (hw _ (List.mem_of_getElem? (i := 28) rfl)) (by decide) (by decide)) q1a q1c (g := (mkF m 1 #[.val (.ref as11_0), .val (.int (0 : Int32))] [(.ref as11_0)])) rfl (by rw [hml]; rfl) (Steps.refl _) (argsL := []) (rest := []) (lenOf pd_1 rfl) rfl (by show 2 * 0 + _ ≤ _; exact Nat.le_of_eq rfl) (hb hby ds11_1) (fun _ _ => ⟨rfl, e0, (by decide : 0 + 0 ≤ _), (by decide : 0 + 0 ≤ _)⟩)
  dsimp only [Pt.U, Pt.locs, Pt.cells, Pt.slots] at X1 l1 y1 z1 st1 hQ1
  subst l1 y1 z1
  obtain ⟨rfl, N1q, eh1⟩ := hQ1
  have N1 := Fr.app N0 N1q
  obtain ⟨T2, X2, e2, st2⟩ := getF X1 hx hZ hown (host := "") (Or.inl (hw _ (List.mem_of_getElem? (i := 30) rfl))) Via.refl eh1 Fv (g := (mkF m 8 #[.val (.ref as11_0), .val (.int (0 : Int32))] [(.ref as11_0)])) rfl rfl (hb hby ds11_8)
  obtain ⟨_, _, ⟨T3, L3, k3, n3⟩, -, X3, ⟨Lc3, hQ3, l3, y3, z3⟩, st3⟩ := Jvm.LawKit.callS X2 hx (y := (⟨"java/lang/StringLatin1", "charAt", "([BI)C"⟩ : MethodName)) hown (mvT hZ (hw _ (List.mem_of_getElem? (i := 46) rfl))) (mvT hZ (hw _ (List.mem_of_getElem? (i := 47) rfl))) (mvT hZ (hw _ (List.mem_of_getElem? (i := 48) rfl))) (mvT hZ (hw _ (List.mem_of_getElem? (i := 49) rfl))) (by decide) (backOf (W := 0) (rms10 l Z a0 hw [] tt kk fm h0 n0 Z0 Vb Sf hfm) hZ (hw _ (List.mem_of_getElem? (i := 49) rfl)) (hw _ (List.mem_of_getElem? (i := 48) rfl)) (by decide) (by decide)) (g := (mkF m 12 #[.val (.ref as11_0), .val (.int (0 : Int32))] [(.int (0 : Int32)), (.ref tt)])) rfl (by rw [hml]; rfl) (argsL := [(.ref tt), (.int (0 : Int32))]) (rest := []) (lenOf pd_5 rfl) rfl (by show 2 * 0 + _ ≤ _; exact Nat.le_of_eq rfl) (hb hby ds11_12) (fun _ _ => ⟨rfl, e2, (by decide : 0 + 0 ≤ _), (by decide : 0 + 0 ≤ _)⟩)
  dsimp only [Pt.U, Pt.locs, Pt.cells, Pt.slots] at X3 l3 y3 z3 st3 hQ3
  subst l3 y3 z3
  obtain ⟨rfl, N3q, eh3⟩ := hQ3
  have N3 := Fr.app N1 N3q
  have k4 : ∀ t, Steps p.tables e below (T3.setTop (mkF m 15 #[.val (.ref as11_0), .val (.int (0 : Int32))] [(.int (62 : Int32))])) t → Steps p.tables e below (s₁.setTop (entryFrame m #[(.ref as11_0), (.int (0 : Int32))] 2)) t := by
    intro t k
    refine pre0 t ?_
    show Steps p.tables e below (s₁.setTop (mkF m 0 #[.val (.ref as11_0), .val (.int (0 : Int32))] [])) _
    refine XS.aloadN X0.here hx rfl (hb hby ds11_0) rfl rfl ?_
    show Steps p.tables e below (s₁.setTop (mkF m 1 #[.val (.ref as11_0), .val (.int (0 : Int32))] [(.ref as11_0)])) _
    refine st1.trans ?_
    show Steps p.tables e below (T1.setTop (mkF m 4 #[.val (.ref as11_0), .val (.int (0 : Int32))] [(.int (1 : Int32))])) _
    refine XS.ifNo X1.here hx rfl (hb hby ds11_4) rfl ((if0 _ _).trans (feq (by decide : ¬ ((1 : Int32) = (0 : Int32)))).1) ?_
    show Steps p.tables e below (T1.setTop (mkF m 7 #[.val (.ref as11_0), .val (.int (0 : Int32))] [])) _
    refine XS.aloadN X1.here hx rfl (hb hby ds11_7) rfl rfl ?_
    show Steps p.tables e below (T1.setTop (mkF m 8 #[.val (.ref as11_0), .val (.int (0 : Int32))] [(.ref as11_0)])) _
    refine st2 _ ?_
    show Steps p.tables e below (T2.setTop (mkF m 11 #[.val (.ref as11_0), .val (.int (0 : Int32))] [(.ref tt)])) _
    refine XS.iloadN X2.here hx rfl (hb hby ds11_11) rfl ?_
    show Steps p.tables e below (T2.setTop (mkF m 12 #[.val (.ref as11_0), .val (.int (0 : Int32))] [(.int (0 : Int32)), (.ref tt)])) _
    refine st3 _ ?_
    exact k
  obtain ⟨fs, hr, hrun, hended, hW, hsame⟩ := X3.leave (v := some (.int (62 : Int32))) (fun h => by rw [Bd.returns] at h; cases h)
  refine ⟨_, _, k4 _ ?_, hrun, hended, _, _, rfl, ?_, ⟨_, rfl⟩, hW, hsame.mono (by decide) (by decide)⟩
  · exact retN X3 hx (t := .char) Bd.returns (by simp) (hb hby ds11_15) hr
  · show Qs11 Z as11_0 tt kk cs fm h0 n0 _ T3.heap _
    rw [eh3]
    exact ⟨rfl, N3, rfl⟩
theorem ds12_0 : decode jdk_42_method_55_code 0 = .ok (.aload_n 0, 1) := by decide +kernel
theorem ds12_1 : decode jdk_42_method_55_code 1 = .ok (.getfield 9, 3) := by decide +kernel
theorem ds12_4 : decode jdk_42_method_55_code 4 = .ok (.arraylength, 1) := by decide +kernel
theorem ds12_5 : decode jdk_42_method_55_code 5 = .ok (.ifCond .ne 7, 3) := by decide +kernel
theorem ds12_12 : decode jdk_42_method_55_code 12 = .ok (.iconst 0, 1) := by decide +kernel
theorem ds12_13 : decode jdk_42_method_55_code 13 = .ok (.ireturn, 1) := by decide +kernel
theorem ef_s12 (m : MethodId) (as12_0 : Addr) : entryFrame m #[(.ref as12_0)] 1 = mkF m 0 #[.val (.ref as12_0)] [] := by first | (simp [entryFrame, mkF, argsToLocals, Value.category]; done) | rfl
def Qs12 (Z : State) (as12_0 : Addr) (tt : Addr) (kk : ClassId) (h0 : Heap) (n0 : Nat) (v : Option Value) (h : Heap) (L : List Loc) : Prop := v = some (.int (0 : Int32)) ∧ Fr n0 L ∧ h = h0
set_option maxRecDepth 65536 in
set_option maxHeartbeats 40000000 in
theorem rms12 (l : Launch) (Z : State) (a0 : Array Value) (hw : ∀ d ∈ tables_1, d.before a0 Z = true) (ws : List Jvm.Cond) (as12_0 : Addr) (tt : Addr) (kk : ClassId) (h0 : Heap) (n0 : Nat) (Z0 : n0 ≤ h0.size) (Fv : Fld Z h0 as12_0 "java/lang/String" "value" "[B" (.ref tt)) (Vb : Arv Z h0 tt kk .byte (2 : Int32) [(.int (62 : Int32)), (.int (61 : Int32))] (.int (0 : Int32))) :
    MetFree l (⟨"java/lang/String", "isEmpty", "()Z"⟩ : MethodName) (head1 (Jvm.Cond.code (⟨"java/lang/String", "isEmpty", "()Z"⟩ : MethodName) jdk_42_method_55_code 1 (some .boolean) :: ws) ({ frames := 0, cells := 0, slots := 0, locals := 0 } : Room)) (fun a U => a = #[(.ref as12_0)] ∧ Z.Warmed39 U.vm ∧ U.heap = h0) (fun _ _ _ _ _ => True) (fun _ U o U' => ∃ v L, o = .returned v ∧ Qs12 Z as12_0 tt kk h0 n0 v U'.heap L ∧ FrameEnd U o U' L ({ frames := 0, cells := 0, slots := 0, locals := 0 } : Room).cells ({ frames := 0, cells := 0, slots := 0, locals := 0 } : Room).slots) := by
  refine MetFree.of_bodySF (plainFor_of_name pn_2) hisR ?_
  intro p e s m args below meth c s₁ Bd hml0 hP hK
  obtain ⟨rfl, hZ, hh⟩ := hP
  have hx := Bd.exec
  have hby := Bd.bytes
  have hml : c.maxLocals = 1 := hml0
  have hown : s.vm.findClass "java/lang/String" = some m.cls := findClass_of_methodNamed Bd.named
  have hnm := (name_of_methodNamed Bd.named Bd.method).1
  have X0 : Stand p l e ({ frames := 0, cells := 0, slots := 0, locals := 0 } : Room) s m #[(.ref as12_0)] below meth c s₁ [] 0 0 := Stand.of_body Bd
  have e0 : s₁.heap = h0 := by rw [← hh, Bd.state]; rfl
  have N0 := Fr.nil n0
  have pre0 : ∀ t, Steps p.tables e below (s₁.setTop (mkF m 0 #[.val (.ref as12_0)] [])) t → Steps p.tables e below (s₁.setTop (entryFrame m #[(.ref as12_0)] 1)) t := fun t k => castTop (ef_s12 m as12_0) k
  obtain ⟨T1, X1, e1, st1⟩ := getF X0 hx hZ hown (host := "") (Or.inl (hw _ (List.mem_of_getElem? (i := 30) rfl))) Via.refl e0 Fv (g := (mkF m 1 #[.val (.ref as12_0)] [(.ref as12_0)])) rfl rfl (hb hby ds12_1)
  obtain ⟨cl2, Ar2, qc2, Sz2, Nn2, Hh2, Gg2⟩ := (id Vb)
  have k3 : ∀ t, Steps p.tables e below (T1.setTop (mkF m 13 #[.val (.ref as12_0)] [(.int (0 : Int32))])) t → Steps p.tables e below (s₁.setTop (entryFrame m #[(.ref as12_0)] 1)) t := by
    intro t k
    refine pre0 t ?_
    show Steps p.tables e below (s₁.setTop (mkF m 0 #[.val (.ref as12_0)] [])) _
    refine XS.aloadN X0.here hx rfl (hb hby ds12_0) rfl rfl ?_
    show Steps p.tables e below (s₁.setTop (mkF m 1 #[.val (.ref as12_0)] [(.ref as12_0)])) _
    refine st1 _ ?_
    show Steps p.tables e below (T1.setTop (mkF m 4 #[.val (.ref as12_0)] [(.ref tt)])) _
    refine X1.arraylength hx (by rw [e1]; exact Ar2.1) (State.isArrayOf_alike hZ.alike Ar2.2.1) (g := (mkF m 4 #[.val (.ref as12_0)] [(.ref tt)])) rfl rfl (hb hby ds12_4) _ ?_
    rw [len_of Sz2 Nn2]
    show Steps p.tables e below (T1.setTop (mkF m 5 #[.val (.ref as12_0)] [(.int (2 : Int32))])) _
    refine XS.ifYes X1.here hx rfl (pc0 := 5) (pc' := 12) rfl (hb hby ds12_5) rfl ((if0 _ _).trans (feq (by decide : ¬ ((2 : Int32) = (0 : Int32)))).2) (by decide) (by decide) ?_
    show Steps p.tables e below (T1.setTop (mkF m 12 #[.val (.ref as12_0)] [])) _
    refine XS.iconst X1.here hx rfl (hb hby ds12_12) ?_
    exact k
  obtain ⟨fs, hr, hrun, hended, hW, hsame⟩ := X1.leave (v := some (.int (0 : Int32))) (fun h => by rw [Bd.returns] at h; cases h)
  refine ⟨_, _, k3 _ ?_, hrun, hended, _, _, rfl, ?_, ⟨_, rfl⟩, hW, hsame.mono (by decide) (by decide)⟩
  · exact retN X1 hx (t := .boolean) Bd.returns (by simp) (hb hby ds12_13) hr
  · show Qs12 Z as12_0 tt kk h0 n0 _ T1.heap _
    rw [e1]
    exact ⟨rfl, N0, rfl⟩
theorem ds13_0 : decode jdk_43_method_2_code 0 = .ok (.iload_n 1, 1) := by decide +kernel
theorem ds13_1 : decode jdk_43_method_2_code 1 = .ok (.aload_n 0, 1) := by decide +kernel
theorem ds13_2 : decode jdk_43_method_2_code 2 = .ok (.arraylength, 1) := by decide +kernel
theorem ds13_3 : decode jdk_43_method_2_code 3 = .ok (.invokestatic 9, 3) := by decide +kernel
theorem ds13_6 : decode jdk_43_method_2_code 6 = .ok (.aload_n 0, 1) := by decide +kernel
theorem ds13_7 : decode jdk_43_method_2_code 7 = .ok (.iload_n 1, 1) := by decide +kernel
theorem ds13_8 : decode jdk_43_method_2_code 8 = .ok (.baload, 1) := by decide +kernel
theorem ds13_9 : decode jdk_43_method_2_code 9 = .ok (.sipush 255, 3) := by decide +kernel
theorem ds13_12 : decode jdk_43_method_2_code 12 = .ok (.iand, 1) := by decide +kernel
theorem ds13_13 : decode jdk_43_method_2_code 13 = .ok (.i2c, 1) := by decide +kernel
theorem ds13_14 : decode jdk_43_method_2_code 14 = .ok (.ireturn, 1) := by decide +kernel
theorem ef_s13 (m : MethodId) (as13_0 : Addr) : entryFrame m #[(.ref as13_0), (.int (0 : Int32))] 2 = mkF m 0 #[.val (.ref as13_0), .val (.int (0 : Int32))] [] := by first | (simp [entryFrame, mkF, argsToLocals, Value.category]; done) | rfl
def Qs13 (Z : State) (as13_0 : Addr) (kk : ClassId) (fm : Value) (h0 : Heap) (n0 : Nat) (v : Option Value) (h : Heap) (L : List Loc) : Prop := v = some (.int (62 : Int32)) ∧ Fr n0 L ∧ h = h0
set_option maxRecDepth 65536 in
set_option maxHeartbeats 40000000 in
theorem rms13 (l : Launch) (Z : State) (a0 : Array Value) (hw : ∀ d ∈ tables_1, d.before a0 Z = true) (ws : List Jvm.Cond) (as13_0 : Addr) (kk : ClassId) (fm : Value) (h0 : Heap) (n0 : Nat) (Z0 : n0 ≤ h0.size) (Vb : Arv Z h0 as13_0 kk .byte (2 : Int32) [(.int (62 : Int32)), (.int (61 : Int32))] (.int (0 : Int32))) (Sf : Sta Z h0 "jdk/internal/util/Preconditions" "SIOOBE_FORMATTER" "Ljava/util/function/BiFunction;" fm) (hfm : fm.isRef = true) :
    MetFree l (⟨"java/lang/StringLatin1", "charAt", "([BI)C"⟩ : MethodName) (head1 (Jvm.Cond.code (⟨"java/lang/StringLatin1", "charAt", "([BI)C"⟩ : MethodName) jdk_43_method_2_code 2 (some .char) :: ws) ({ frames := 2, cells := 0, slots := 0, locals := 27 } : Room)) (fun a U => a = #[(.ref as13_0), (.int (0 : Int32))] ∧ Z.Warmed39 U.vm ∧ U.heap = h0) (fun _ _ _ _ _ => True) (fun _ U o U' => ∃ v L, o = .returned v ∧ Qs13 Z as13_0 kk fm h0 n0 v U'.heap L ∧ FrameEnd U o U' L ({ frames := 2, cells := 0, slots := 0, locals := 27 } : Room).cells ({ frames := 2, cells := 0, slots := 0, locals := 27 } : Room).slots) := by
  refine MetFree.of_bodySF (plainFor_of_name pn_4) hisR ?_
  intro p e s m args below meth c s₁ Bd hml0 hP hK
  obtain ⟨rfl, hZ, hh⟩ := hP
  have hx := Bd.exec
  have hby := Bd.bytes
  have hml : c.maxLocals = 2 := hml0
  have hown : s.vm.findClass "java/lang/StringLatin1" = some m.cls := findClass_of_methodNamed Bd.named
  have hnm := (name_of_methodNamed Bd.named Bd.method).1
  have X0 : Stand p l e ({ frames := 2, cells := 0, slots := 0, locals := 27 } : Room) s m #[(.ref as13_0), (.int (0 : Int32))] below meth c s₁ [] 0 0 := Stand.of_body Bd
  have e0 : s₁.heap = h0 := by rw [← hh, Bd.state]; rfl
  have N0 := Fr.nil n0
  have pre0 : ∀ t, Steps p.tables e below (s₁.setTop (mkF m 0 #[.val (.ref as13_0), .val (.int (0 : Int32))] [])) t → Steps p.tables e below (s₁.setTop (entryFrame m #[(.ref as13_0), (.int (0 : Int32))] 2)) t := fun t k => castTop (ef_s13 m as13_0) k
  obtain ⟨cl1, Ar1, qc1, Sz1, Nn1, Hh1, Gg1⟩ := (id Vb)
  obtain ⟨_, _, ⟨T2, L2, k2, n2⟩, -, X2, ⟨Lc2, hQ2, l2, y2, z2⟩, st2⟩ := Jvm.LawKit.callS X0 hx (y := (⟨"java/lang/String", "checkIndex", "(II)V"⟩ : MethodName)) hown (mvT hZ (hw _ (List.mem_of_getElem? (i := 50) rfl))) (mvT hZ (hw _ (List.mem_of_getElem? (i := 51) rfl))) (mvT hZ (hw _ (List.mem_of_getElem? (i := 28) rfl))) (mvT hZ (hw _ (List.mem_of_getElem? (i := 52) rfl))) (by decide) (backOf (W := 0) (rms6 l Z a0 hw [] (0 : Int32) (2 : Int32) fm h0 n0 Z0 Sf (by decide : ¬ ((0 : Int32) < (0 : Int32))) (by decide : (0 : Int32) < (2 : Int32)) hfm) hZ (hw _ (List.mem_of_getElem? (i := 52) rfl)) (hw _ (List.mem_of_getElem? (i := 28) rfl)) (by decide) (by decide)) (g := (mkF m 3 #[.val (.ref as13_0), .val (.int (0 : Int32))] [(.int (2 : Int32)), (.int (0 : Int32))])) rfl (by rw [hml]; rfl) (argsL := [(.int (0 : Int32)), (.int (2 : Int32))]) (rest := []) (lenOf pd_4 rfl) rfl (by show 2 * 0 + _ ≤ _; exact Nat.le_of_eq rfl) (hb hby ds13_3) (fun _ _ => ⟨rfl, e0, (by decide : 0 + 0 ≤ _), (by decide : 0 + 0 ≤ _)⟩)
  dsimp only [Pt.U, Pt.locs, Pt.cells, Pt.slots] at X2 l2 y2 z2 st2 hQ2
  subst l2 y2 z2
  obtain ⟨rfl, N2q, eh2⟩ := hQ2
  have N2 := Fr.app N0 N2q
  obtain ⟨cl3, Ar3, qc3, Sz3, Nn3, Hh3, Gg3⟩ := (id Vb)
  have hin3 : ¬ ((0 : Int32) < 0 ∨ cl3.slots.size ≤ ((0 : Int32)).toNatClampNeg) := inb_of Sz3 ⟨by decide, by decide⟩
  have k4 : ∀ t, Steps p.tables e below (T2.setTop (mkF m 14 #[.val (.ref as13_0), .val (.int (0 : Int32))] [(.int (62 : Int32))])) t → Steps p.tables e below (s₁.setTop (entryFrame m #[(.ref as13_0), (.int (0 : Int32))] 2)) t := by
    intro t k
    refine pre0 t ?_
    show Steps p.tables e below (s₁.setTop (mkF m 0 #[.val (.ref as13_0), .val (.int (0 : Int32))] [])) _
    refine XS.iloadN X0.here hx rfl (hb hby ds13_0) rfl ?_
    show Steps p.tables e below (s₁.setTop (mkF m 1 #[.val (.ref as13_0), .val (.int (0 : Int32))] [(.int (0 : Int32))])) _
    refine XS.aloadN X0.here hx rfl (hb hby ds13_1) rfl rfl ?_
    show Steps p.tables e below (s₁.setTop (mkF m 2 #[.val (.ref as13_0), .val (.int (0 : Int32))] [(.ref as13_0), (.int (0 : Int32))])) _
    refine X0.arraylength hx (by rw [e0]; exact Ar1.1) (State.isArrayOf_alike hZ.alike Ar1.2.1) (g := (mkF m 2 #[.val (.ref as13_0), .val (.int (0 : Int32))] [(.ref as13_0), (.int (0 : Int32))])) rfl rfl (hb hby ds13_2) _ ?_
    rw [len_of Sz1 Nn1]
    show Steps p.tables e below (s₁.setTop (mkF m 3 #[.val (.ref as13_0), .val (.int (0 : Int32))] [(.int (2 : Int32)), (.int (0 : Int32))])) _
    refine st2 _ ?_
    show Steps p.tables e below (T2.setTop (mkF m 6 #[.val (.ref as13_0), .val (.int (0 : Int32))] [])) _
    refine XS.aloadN X2.here hx rfl (hb hby ds13_6) rfl rfl ?_
    show Steps p.tables e below (T2.setTop (mkF m 7 #[.val (.ref as13_0), .val (.int (0 : Int32))] [(.ref as13_0)])) _
    refine XS.iloadN X2.here hx rfl (hb hby ds13_7) rfl ?_
    show Steps p.tables e below (T2.setTop (mkF m 8 #[.val (.ref as13_0), .val (.int (0 : Int32))] [(.int (0 : Int32)), (.ref as13_0)])) _
    refine X2.baloadBytes hx (j := (0 : Int32)) (v := (.int (62 : Int32))) (by rw [eh2]; exact Ar3.1) (State.isArrayOf_alike hZ.alike Ar3.2.1) Ar3.2.2 hin3 (Hh3.at hin3 rfl) (g := (mkF m 8 #[.val (.ref as13_0), .val (.int (0 : Int32))] [(.int (0 : Int32)), (.ref as13_0)])) rfl rfl (hb hby ds13_8) _ ?_
    show Steps p.tables e below (T2.setTop (mkF m 9 #[.val (.ref as13_0), .val (.int (0 : Int32))] [(.int (62 : Int32))])) _
    refine XS.sipush X2.here hx rfl (hb hby ds13_9) ?_
    show Steps p.tables e below (T2.setTop (mkF m 12 #[.val (.ref as13_0), .val (.int (0 : Int32))] [(.int (255 : Int32)), (.int (62 : Int32))])) _
    refine XS.iand X2.here hx rfl (hb hby ds13_12) rfl ?_
    show Steps p.tables e below (T2.setTop (mkF m 13 #[.val (.ref as13_0), .val (.int (0 : Int32))] [(.int (62 : Int32))])) _
    refine XS.i2c X2.here hx rfl (hb hby ds13_13) rfl ?_
    exact k
  obtain ⟨fs, hr, hrun, hended, hW, hsame⟩ := X2.leave (v := some (.int (62 : Int32))) (fun h => by rw [Bd.returns] at h; cases h)
  refine ⟨_, _, k4 _ ?_, hrun, hended, _, _, rfl, ?_, ⟨_, rfl⟩, hW, hsame.mono (by decide) (by decide)⟩
  · exact retN X2 hx (t := .char) Bd.returns (by simp) (hb hby ds13_14) hr
  · show Qs13 Z as13_0 kk fm h0 n0 _ T2.heap _
    rw [eh2]
    exact ⟨rfl, N2, rfl⟩
theorem ds14_0 : decode jdk_42_method_56_code 0 = .ok (.aload_n 0, 1) := by decide +kernel
theorem ds14_1 : decode jdk_42_method_56_code 1 = .ok (.invokevirtual 492, 3) := by decide +kernel
theorem ds14_4 : decode jdk_42_method_56_code 4 = .ok (.ifCond .eq 12, 3) := by decide +kernel
theorem ds14_7 : decode jdk_42_method_56_code 7 = .ok (.aload_n 0, 1) := by decide +kernel
theorem ds14_8 : decode jdk_42_method_56_code 8 = .ok (.getfield 9, 3) := by decide +kernel
theorem ds14_11 : decode jdk_42_method_56_code 11 = .ok (.iload_n 1, 1) := by decide +kernel
theorem ds14_12 : decode jdk_42_method_56_code 12 = .ok (.invokestatic 495, 3) := by decide +kernel
theorem ds14_15 : decode jdk_42_method_56_code 15 = .ok (.ireturn, 1) := by decide +kernel
theorem ef_s14 (m : MethodId) (as14_0 : Addr) : entryFrame m #[(.ref as14_0), (.int (0 : Int32))] 2 = mkF m 0 #[.val (.ref as14_0), .val (.int (0 : Int32))] [] := by first | (simp [entryFrame, mkF, argsToLocals, Value.category]; done) | rfl
def Qs14 (Z : State) (as14_0 : Addr) (tt : Addr) (kk : ClassId) (cs : Int32) (fm : Value) (h0 : Heap) (n0 : Nat) (v : Option Value) (h : Heap) (L : List Loc) : Prop := v = some (.int (62 : Int32)) ∧ Fr n0 L ∧ h = h0
set_option maxRecDepth 65536 in
set_option maxHeartbeats 40000000 in
theorem rms14 (l : Launch) (Z : State) (a0 : Array Value) (hw : ∀ d ∈ tables_1, d.before a0 Z = true) (ws : List Jvm.Cond) (as14_0 : Addr) (tt : Addr) (kk : ClassId) (cs : Int32) (fm : Value) (h0 : Heap) (n0 : Nat) (Z0 : n0 ≤ h0.size) (Es : Exa Z h0 as14_0 "java/lang/String") (Fv : Fld Z h0 as14_0 "java/lang/String" "value" "[B" (.ref tt)) (Fc : Fld Z h0 as14_0 "java/lang/String" "coder" "B" (.int (0 : Int32))) (Vb : Arv Z h0 tt kk .byte (2 : Int32) [(.int (62 : Int32)), (.int (61 : Int32))] (.int (0 : Int32))) (Sc : Sta Z h0 "java/lang/String" "COMPACT_STRINGS" "Z" (.int cs)) (Sf : Sta Z h0 "jdk/internal/util/Preconditions" "SIOOBE_FORMATTER" "Ljava/util/function/BiFunction;" fm) (hcs : ¬ (cs = (0 : Int32))) (hfm : fm.isRef = true) :
    MetFree l (⟨"java/lang/String", "charAt", "(I)C"⟩ : MethodName) (head1 (Jvm.Cond.code (⟨"java/lang/String", "charAt", "(I)C"⟩ : MethodName) jdk_42_method_56_code 2 (some .char) :: ws) ({ frames := 3, cells := 0, slots := 0, locals := 40 } : Room)) (fun a U => a = #[(.ref as14_0), (.int (0 : Int32))] ∧ Z.Warmed39 U.vm ∧ U.heap = h0) (fun _ _ _ _ _ => True) (fun _ U o U' => ∃ v L, o = .returned v ∧ Qs14 Z as14_0 tt kk cs fm h0 n0 v U'.heap L ∧ FrameEnd U o U' L ({ frames := 3, cells := 0, slots := 0, locals := 40 } : Room).cells ({ frames := 3, cells := 0, slots := 0, locals := 40 } : Room).slots) := by
  refine MetFree.of_bodySF (plainFor_of_name pn_2) hisR ?_
  intro p e s m args below meth c s₁ Bd hml0 hP hK
  obtain ⟨rfl, hZ, hh⟩ := hP
  have hx := Bd.exec
  have hby := Bd.bytes
  have hml : c.maxLocals = 2 := hml0
  have hown : s.vm.findClass "java/lang/String" = some m.cls := findClass_of_methodNamed Bd.named
  have hnm := (name_of_methodNamed Bd.named Bd.method).1
  have X0 : Stand p l e ({ frames := 3, cells := 0, slots := 0, locals := 40 } : Room) s m #[(.ref as14_0), (.int (0 : Int32))] below meth c s₁ [] 0 0 := Stand.of_body Bd
  have e0 : s₁.heap = h0 := by rw [← hh, Bd.state]; rfl
  have N0 := Fr.nil n0
  have pre0 : ∀ t, Steps p.tables e below (s₁.setTop (mkF m 0 #[.val (.ref as14_0), .val (.int (0 : Int32))] [])) t → Steps p.tables e below (s₁.setTop (entryFrame m #[(.ref as14_0), (.int (0 : Int32))] 2)) t := fun t k => castTop (ef_s14 m as14_0) k
  obtain ⟨cq1, kq1, q1a, q1b, q1c⟩ := isOf hZ e0 Es
  obtain ⟨_, _, ⟨T1, L1, k1, n1⟩, -, X1, ⟨Lc1, hQ1, l1, y1, z1⟩, st1⟩ := X0.virtualBack hx (y := (⟨"java/lang/String", "isLatin1", "()Z"⟩ : MethodName)) (z := (⟨"java/lang/String", "isLatin1", "()Z"⟩ : MethodName)) hown (mvT hZ (hw _ (List.mem_of_getElem? (i := 38) rfl))) (mvT hZ (hw _ (List.mem_of_getElem? (i := 39) rfl))) (notFace_of_selects (args := #[]) (mvT hZ (hw _ (List.mem_of_getElem? (i := 41) rfl)))) (mvT hZ (hw _ (List.mem_of_getElem? (i := 41) rfl))) (mvT hZ (hw _ (List.mem_of_getElem? (i := 40) rfl))) (by decide) (backOf (W := 0) (rms3 l Z a0 hw [] as14_0 cs h0 n0 Z0 Sc Fc hcs) hZ (hw _ (List.mem_of_getElem? (i := 42) rfl)) (hw _ (List.mem_of_getElem? (i := 28) rfl)) (by decide) (by decide)) q1a q1c (g := (mkF m 1 #[.val (.ref as14_0), .val (.int (0 : Int32))] [(.ref as14_0)])) rfl (by rw [hml]; rfl) (Steps.refl _) (argsL := []) (rest := []) (lenOf pd_1 rfl) rfl (by show 2 * 0 + _ ≤ _; exact Nat.le_of_eq rfl) (hb hby ds14_1) (fun _ _ => ⟨rfl, e0, (by decide : 0 + 0 ≤ _), (by decide : 0 + 0 ≤ _)⟩)
  dsimp only [Pt.U, Pt.locs, Pt.cells, Pt.slots] at X1 l1 y1 z1 st1 hQ1
  subst l1 y1 z1
  obtain ⟨rfl, N1q, eh1⟩ := hQ1
  have N1 := Fr.app N0 N1q
  obtain ⟨T2, X2, e2, st2⟩ := getF X1 hx hZ hown (host := "") (Or.inl (hw _ (List.mem_of_getElem? (i := 30) rfl))) Via.refl eh1 Fv (g := (mkF m 8 #[.val (.ref as14_0), .val (.int (0 : Int32))] [(.ref as14_0)])) rfl rfl (hb hby ds14_8)
  obtain ⟨_, _, ⟨T3, L3, k3, n3⟩, -, X3, ⟨Lc3, hQ3, l3, y3, z3⟩, st3⟩ := Jvm.LawKit.callS X2 hx (y := (⟨"java/lang/StringLatin1", "charAt", "([BI)C"⟩ : MethodName)) hown (mvT hZ (hw _ (List.mem_of_getElem? (i := 46) rfl))) (mvT hZ (hw _ (List.mem_of_getElem? (i := 47) rfl))) (mvT hZ (hw _ (List.mem_of_getElem? (i := 48) rfl))) (mvT hZ (hw _ (List.mem_of_getElem? (i := 49) rfl))) (by decide) (backOf (W := 0) (rms13 l Z a0 hw [] tt kk fm h0 n0 Z0 Vb Sf hfm) hZ (hw _ (List.mem_of_getElem? (i := 49) rfl)) (hw _ (List.mem_of_getElem? (i := 48) rfl)) (by decide) (by decide)) (g := (mkF m 12 #[.val (.ref as14_0), .val (.int (0 : Int32))] [(.int (0 : Int32)), (.ref tt)])) rfl (by rw [hml]; rfl) (argsL := [(.ref tt), (.int (0 : Int32))]) (rest := []) (lenOf pd_5 rfl) rfl (by show 2 * 0 + _ ≤ _; exact Nat.le_of_eq rfl) (hb hby ds14_12) (fun _ _ => ⟨rfl, e2, (by decide : 0 + 0 ≤ _), (by decide : 0 + 0 ≤ _)⟩)
  dsimp only [Pt.U, Pt.locs, Pt.cells, Pt.slots] at X3 l3 y3 z3 st3 hQ3
  subst l3 y3 z3
  obtain ⟨rfl, N3q, eh3⟩ := hQ3
  have N3 := Fr.app N1 N3q
  have k4 : ∀ t, Steps p.tables e below (T3.setTop (mkF m 15 #[.val (.ref as14_0), .val (.int (0 : Int32))] [(.int (62 : Int32))])) t → Steps p.tables e below (s₁.setTop (entryFrame m #[(.ref as14_0), (.int (0 : Int32))] 2)) t := by
    intro t k
    refine pre0 t ?_
    show Steps p.tables e below (s₁.setTop (mkF m 0 #[.val (.ref as14_0), .val (.int (0 : Int32))] [])) _
    refine XS.aloadN X0.here hx rfl (hb hby ds14_0) rfl rfl ?_
    show Steps p.tables e below (s₁.setTop (mkF m 1 #[.val (.ref as14_0), .val (.int (0 : Int32))] [(.ref as14_0)])) _
    refine st1.trans ?_
    show Steps p.tables e below (T1.setTop (mkF m 4 #[.val (.ref as14_0), .val (.int (0 : Int32))] [(.int (1 : Int32))])) _
    refine XS.ifNo X1.here hx rfl (hb hby ds14_4) rfl ((if0 _ _).trans (feq (by decide : ¬ ((1 : Int32) = (0 : Int32)))).1) ?_
    show Steps p.tables e below (T1.setTop (mkF m 7 #[.val (.ref as14_0), .val (.int (0 : Int32))] [])) _
    refine XS.aloadN X1.here hx rfl (hb hby ds14_7) rfl rfl ?_
    show Steps p.tables e below (T1.setTop (mkF m 8 #[.val (.ref as14_0), .val (.int (0 : Int32))] [(.ref as14_0)])) _
    refine st2 _ ?_
    show Steps p.tables e below (T2.setTop (mkF m 11 #[.val (.ref as14_0), .val (.int (0 : Int32))] [(.ref tt)])) _
    refine XS.iloadN X2.here hx rfl (hb hby ds14_11) rfl ?_
    show Steps p.tables e below (T2.setTop (mkF m 12 #[.val (.ref as14_0), .val (.int (0 : Int32))] [(.int (0 : Int32)), (.ref tt)])) _
    refine st3 _ ?_
    exact k
  obtain ⟨fs, hr, hrun, hended, hW, hsame⟩ := X3.leave (v := some (.int (62 : Int32))) (fun h => by rw [Bd.returns] at h; cases h)
  refine ⟨_, _, k4 _ ?_, hrun, hended, _, _, rfl, ?_, ⟨_, rfl⟩, hW, hsame.mono (by decide) (by decide)⟩
  · exact retN X3 hx (t := .char) Bd.returns (by simp) (hb hby ds14_15) hr
  · show Qs14 Z as14_0 tt kk cs fm h0 n0 _ T3.heap _
    rw [eh3]
    exact ⟨rfl, N3, rfl⟩
theorem ef_0 (m : MethodId) (p0_0 : Int32) : entryFrame m #[(.int p0_0)] maxLocals = mkF m 0 #[.val (.int p0_0), .unset, .unset, .unset, .unset, .unset, .unset] [] := by first | (simp [entryFrame, mkF, argsToLocals, Value.category, maxLocals]; done) | rfl
def Q0 (Z : State) (p0_0 : Int32) (u_INACTIVE : Addr) (u_GREATER : Addr) (u_GREATER_EQUAL : Addr) (u_INACTIVE_flag : Addr) (u_INACTIVE_flag_value : Addr) (cl_u_INACTIVE_flag_value : Cell) (u_GREATER_flag : Addr) (u_GREATER_flag_value : Addr) (cl_u_GREATER_flag_value : Cell) (u_ACTIVE : Addr) (u_GREATER_EQUAL_flag : Addr) (u_GREATER_EQUAL_flag_value : Addr) (cl_u_GREATER_EQUAL_flag_value : Cell) (u_LESS : Addr) (u_LESS_flag : Addr) (u_LESS_flag_value : Addr) (cl_u_LESS_flag_value : Cell) (cs : Int32) (fm : Value) (h0 : Heap) (n0 : Nat) (v : Option Value) (h : Heap) (L : List Loc) : Prop := v = some (.int (1 : Int32)) ∧ Fr n0 L
set_option maxRecDepth 65536 in
set_option maxHeartbeats 40000000 in
theorem rm0 (l : Launch) (Z : State) (a0 : Array Value) (hw : ∀ d ∈ tables_1, d.before a0 Z = true) (ws : List Jvm.Cond) (p0_0 : Int32) (u_INACTIVE : Addr) (u_GREATER : Addr) (u_GREATER_EQUAL : Addr) (u_INACTIVE_flag : Addr) (u_INACTIVE_flag_value : Addr) (cl_u_INACTIVE_flag_value : Cell) (u_GREATER_flag : Addr) (u_GREATER_flag_value : Addr) (cl_u_GREATER_flag_value : Cell) (u_ACTIVE : Addr) (u_GREATER_EQUAL_flag : Addr) (u_GREATER_EQUAL_flag_value : Addr) (cl_u_GREATER_EQUAL_flag_value : Cell) (u_LESS : Addr) (u_LESS_flag : Addr) (u_LESS_flag_value : Addr) (cl_u_LESS_flag_value : Cell) (cs : Int32) (fm : Value) (h0 : Heap) (n0 : Nat) (Z0 : n0 ≤ h0.size) (S_INACTIVE : Sta Z h0 "com/example/chop/chop/compiler/Mark" "INACTIVE" "Lcom/example/chop/chop/compiler/Mark;" (.ref u_INACTIVE)) (E_u_INACTIVE : Exa Z h0 u_INACTIVE "com/example/chop/chop/compiler/Mark") (S_GREATER : Sta Z h0 "com/example/chop/chop/compiler/Mark" "GREATER" "Lcom/example/chop/chop/compiler/Mark;" (.ref u_GREATER)) (E_u_GREATER : Exa Z h0 u_GREATER "com/example/chop/chop/compiler/Mark") (F_u_INACTIVE_ordinal : Fld Z h0 u_INACTIVE "java/lang/Enum" "ordinal" "I" (.int (0 : Int32))) (F_u_GREATER_ordinal : Fld Z h0 u_GREATER "java/lang/Enum" "ordinal" "I" (.int (3 : Int32))) (S_GREATER_EQUAL : Sta Z h0 "com/example/chop/chop/compiler/Mark" "GREATER_EQUAL" "Lcom/example/chop/chop/compiler/Mark;" (.ref u_GREATER_EQUAL)) (E_u_GREATER_EQUAL : Exa Z h0 u_GREATER_EQUAL "com/example/chop/chop/compiler/Mark") (F_u_GREATER_EQUAL_ordinal : Fld Z h0 u_GREATER_EQUAL "java/lang/Enum" "ordinal" "I" (.int (4 : Int32))) (F_u_INACTIVE_flag : Fld Z h0 u_INACTIVE "com/example/chop/chop/compiler/Mark" "flag" "Ljava/lang/String;" (.ref u_INACTIVE_flag)) (E_u_INACTIVE_flag : Exa Z h0 u_INACTIVE_flag "java/lang/String") (F_u_INACTIVE_flag_value : Fld Z h0 u_INACTIVE_flag "java/lang/String" "value" "[B" (.ref u_INACTIVE_flag_value)) (F_u_GREATER_flag : Fld Z h0 u_GREATER "com/example/chop/chop/compiler/Mark" "flag" "Ljava/lang/String;" (.ref u_GREATER_flag)) (E_u_GREATER_flag : Exa Z h0 u_GREATER_flag "java/lang/String") (F_u_GREATER_flag_value : Fld Z h0 u_GREATER_flag "java/lang/String" "value" "[B" (.ref u_GREATER_flag_value)) (F_u_GREATER_flag_coder : Fld Z h0 u_GREATER_flag "java/lang/String" "coder" "B" (.int (0 : Int32))) (S_ACTIVE : Sta Z h0 "com/example/chop/chop/compiler/Mark" "ACTIVE" "Lcom/example/chop/chop/compiler/Mark;" (.ref u_ACTIVE)) (E_u_ACTIVE : Exa Z h0 u_ACTIVE "com/example/chop/chop/compiler/Mark") (F_u_ACTIVE_ordinal : Fld Z h0 u_ACTIVE "java/lang/Enum" "ordinal" "I" (.int (1 : Int32))) (F_u_ACTIVE_flag : Fld Z h0 u_ACTIVE "com/example/chop/chop/compiler/Mark" "flag" "Ljava/lang/String;" (.ref u_INACTIVE_flag)) (F_u_GREATER_EQUAL_flag : Fld Z h0 u_GREATER_EQUAL "com/example/chop/chop/compiler/Mark" "flag" "Ljava/lang/String;" (.ref u_GREATER_EQUAL_flag)) (E_u_GREATER_EQUAL_flag : Exa Z h0 u_GREATER_EQUAL_flag "java/lang/String") (F_u_GREATER_EQUAL_flag_value : Fld Z h0 u_GREATER_EQUAL_flag "java/lang/String" "value" "[B" (.ref u_GREATER_EQUAL_flag_value)) (F_u_GREATER_EQUAL_flag_coder : Fld Z h0 u_GREATER_EQUAL_flag "java/lang/String" "coder" "B" (.int (0 : Int32))) (S_LESS : Sta Z h0 "com/example/chop/chop/compiler/Mark" "LESS" "Lcom/example/chop/chop/compiler/Mark;" (.ref u_LESS)) (E_u_LESS : Exa Z h0 u_LESS "com/example/chop/chop/compiler/Mark") (F_u_LESS_ordinal : Fld Z h0 u_LESS "java/lang/Enum" "ordinal" "I" (.int (2 : Int32))) (F_u_LESS_flag : Fld Z h0 u_LESS "com/example/chop/chop/compiler/Mark" "flag" "Ljava/lang/String;" (.ref u_LESS_flag)) (E_u_LESS_flag : Exa Z h0 u_LESS_flag "java/lang/String") (F_u_LESS_flag_value : Fld Z h0 u_LESS_flag "java/lang/String" "value" "[B" (.ref u_LESS_flag_value)) (F_u_LESS_flag_coder : Fld Z h0 u_LESS_flag "java/lang/String" "coder" "B" (.int (0 : Int32))) (F_u_INACTIVE_flag_coder : Fld Z h0 u_INACTIVE_flag "java/lang/String" "coder" "B" (.int (0 : Int32))) (V_u_INACTIVE_flag_value : Arv Z h0 u_INACTIVE_flag_value cl_u_INACTIVE_flag_value.cls .byte (0 : Int32) [] (.int (0 : Int32))) (V_u_GREATER_flag_value : Arv Z h0 u_GREATER_flag_value cl_u_GREATER_flag_value.cls .byte (1 : Int32) [(.int (62 : Int32))] (.int (0 : Int32))) (V_u_GREATER_EQUAL_flag_value : Arv Z h0 u_GREATER_EQUAL_flag_value cl_u_GREATER_EQUAL_flag_value.cls .byte (2 : Int32) [(.int (62 : Int32)), (.int (61 : Int32))] (.int (0 : Int32))) (V_u_LESS_flag_value : Arv Z h0 u_LESS_flag_value cl_u_LESS_flag_value.cls .byte (1 : Int32) [(.int (60 : Int32))] (.int (0 : Int32))) (Sc : Sta Z h0 "java/lang/String" "COMPACT_STRINGS" "Z" (.int cs)) (Sf : Sta Z h0 "jdk/internal/util/Preconditions" "SIOOBE_FORMATTER" "Ljava/util/function/BiFunction;" fm) (hcs : ¬ (cs = (0 : Int32))) (hfm : fm.isRef = true) :
    MetFree l x (head1 (Jvm.Cond.code x code maxLocals ret :: ws) room_1) (fun a U => a = #[(.int p0_0)] ∧ Z.Warmed39 U.vm ∧ U.heap = h0) (fun _ _ _ _ _ => True) (fun _ U o U' => ∃ v L, o = .returned v ∧ Q0 Z p0_0 u_INACTIVE u_GREATER u_GREATER_EQUAL u_INACTIVE_flag u_INACTIVE_flag_value cl_u_INACTIVE_flag_value u_GREATER_flag u_GREATER_flag_value cl_u_GREATER_flag_value u_ACTIVE u_GREATER_EQUAL_flag u_GREATER_EQUAL_flag_value cl_u_GREATER_EQUAL_flag_value u_LESS u_LESS_flag u_LESS_flag_value cl_u_LESS_flag_value cs fm h0 n0 v U'.heap L ∧ FrameEnd U o U' L 0 0) := by
  refine MetFree.of_bodySF (plainFor_of_name pn_1) hisR ?_
  intro p e s m args below meth c s₁ Bd hml0 hP hK
  obtain ⟨rfl, hZ, hh⟩ := hP
  have hx := Bd.exec
  have hby := Bd.bytes
  have hml : c.maxLocals = 7 := hml0
  have hown : s.vm.findClass "com/example/chop/chop/compiler/MarkIsWaitingPinLaw" = some m.cls := findClass_of_methodNamed Bd.named
  have hnm := (name_of_methodNamed Bd.named Bd.method).1
  have X0 : Stand p l e room_1 s m #[(.int p0_0)] below meth c s₁ [] 0 0 := Stand.of_body Bd
  have e0 : s₁.heap = h0 := by rw [← hh, Bd.state]; rfl
  have N0 := Fr.nil n0
  have pre0 : ∀ t, Steps p.tables e below (s₁.setTop (mkF m 0 #[.val (.int p0_0), .unset, .unset, .unset, .unset, .unset, .unset] [])) t → Steps p.tables e below (s₁.setTop (entryFrame m #[(.int p0_0)] maxLocals)) t := fun t k => castTop (ef_0 m p0_0) k
  have ne_INACTIVE_ACTIVE : u_INACTIVE ≠ u_ACTIVE := Fld.ne F_u_INACTIVE_ordinal F_u_ACTIVE_ordinal (by intro q; cases q)
  have ne_INACTIVE_LESS : u_INACTIVE ≠ u_LESS := Fld.ne F_u_INACTIVE_ordinal F_u_LESS_ordinal (by intro q; cases q)
  have ne_INACTIVE_GREATER : u_INACTIVE ≠ u_GREATER := Fld.ne F_u_INACTIVE_ordinal F_u_GREATER_ordinal (by intro q; cases q)
  have ne_INACTIVE_GREATER_EQUAL : u_INACTIVE ≠ u_GREATER_EQUAL := Fld.ne F_u_INACTIVE_ordinal F_u_GREATER_EQUAL_ordinal (by intro q; cases q)
  have ne_ACTIVE_LESS : u_ACTIVE ≠ u_LESS := Fld.ne F_u_ACTIVE_ordinal F_u_LESS_ordinal (by intro q; cases q)
  have ne_ACTIVE_GREATER : u_ACTIVE ≠ u_GREATER := Fld.ne F_u_ACTIVE_ordinal F_u_GREATER_ordinal (by intro q; cases q)
  have ne_ACTIVE_GREATER_EQUAL : u_ACTIVE ≠ u_GREATER_EQUAL := Fld.ne F_u_ACTIVE_ordinal F_u_GREATER_EQUAL_ordinal (by intro q; cases q)
  have ne_LESS_GREATER : u_LESS ≠ u_GREATER := Fld.ne F_u_LESS_ordinal F_u_GREATER_ordinal (by intro q; cases q)
  have ne_LESS_GREATER_EQUAL : u_LESS ≠ u_GREATER_EQUAL := Fld.ne F_u_LESS_ordinal F_u_GREATER_EQUAL_ordinal (by intro q; cases q)
  have ne_GREATER_GREATER_EQUAL : u_GREATER ≠ u_GREATER_EQUAL := Fld.ne F_u_GREATER_ordinal F_u_GREATER_EQUAL_ordinal (by intro q; cases q)
  have k1 : ∀ t, Steps p.tables e below (s₁.setTop (mkF m 7 #[.val (.int p0_0), .val (.int ((p0_0 &&& (2147483647 : Int32)) % (5 : Int32))), .unset, .unset, .unset, .unset, .unset] [])) t → Steps p.tables e below (s₁.setTop (entryFrame m #[(.int p0_0)] maxLocals)) t := by
    intro t k
    refine pre0 t ?_
    show Steps p.tables e below (s₁.setTop (mkF m 0 #[.val (.int p0_0), .unset, .unset, .unset, .unset, .unset, .unset] [])) _
    refine XS.iloadN X0.here hx rfl (hb hby at_0) rfl ?_
    show Steps p.tables e below (s₁.setTop (mkF m 1 #[.val (.int p0_0), .unset, .unset, .unset, .unset, .unset, .unset] [(.int p0_0)])) _
    refine X0.ldcInt hx hown (mvT hZ (hw _ (List.mem_of_getElem? (i := 0) rfl))) (g := (mkF m 1 #[.val (.int p0_0), .unset, .unset, .unset, .unset, .unset, .unset] [(.int p0_0)])) rfl (hb hby at_1) _ ?_
    show Steps p.tables e below (s₁.setTop (mkF m 3 #[.val (.int p0_0), .unset, .unset, .unset, .unset, .unset, .unset] [(.int (2147483647 : Int32)), (.int p0_0)])) _
    refine XS.iand X0.here hx rfl (hb hby at_3) rfl ?_
    show Steps p.tables e below (s₁.setTop (mkF m 4 #[.val (.int p0_0), .unset, .unset, .unset, .unset, .unset, .unset] [(.int (p0_0 &&& (2147483647 : Int32)))])) _
    refine XS.iconst X0.here hx rfl (hb hby at_4) ?_
    show Steps p.tables e below (s₁.setTop (mkF m 5 #[.val (.int p0_0), .unset, .unset, .unset, .unset, .unset, .unset] [(.int (5 : Int32)), (.int (p0_0 &&& (2147483647 : Int32)))])) _
    refine iremM X0 hx rfl (hb hby at_5) rfl (by decide) ?_
    show Steps p.tables e below (s₁.setTop (mkF m 6 #[.val (.int p0_0), .unset, .unset, .unset, .unset, .unset, .unset] [(.int ((p0_0 &&& (2147483647 : Int32)) % (5 : Int32)))])) _
    refine XS.istoreN X0.here hx rfl (hb hby at_6) rfl (l' := #[.val (.int p0_0), .val (.int ((p0_0 &&& (2147483647 : Int32)) % (5 : Int32))), .unset, .unset, .unset, .unset, .unset]) rfl ?_
    exact k
  obtain ⟨z2, hz2⟩ : ∃ z, z = ((p0_0 &&& (2147483647 : Int32)) % (5 : Int32)) := ⟨_, rfl⟩
  rw [← hz2] at k1
  have hz2' : z2 = (0 : Int32) ∨ z2 = (1 : Int32) ∨ z2 = (2 : Int32) ∨ z2 = (3 : Int32) ∨ z2 = (4 : Int32) := by rw [hz2]; exact own_mod5 _
  rcases hz2' with rfl | rfl | rfl | rfl | rfl
  · skip
    obtain ⟨_, _, ⟨T3, L3, k3, n3⟩, -, X3, ⟨Lc3, hQ3, l3, y3, z3⟩, st3⟩ := Jvm.LawKit.callS X0 hx (y := (⟨"com/example/chop/chop/compiler/MarkIsWaitingPinLaw", "pick", "(I)Lcom/example/chop/chop/compiler/Mark;"⟩ : MethodName)) hown (mvT hZ (hw _ (List.mem_of_getElem? (i := 1) rfl))) (mvT hZ (hw _ (List.mem_of_getElem? (i := 2) rfl))) (mvT hZ (hw _ (List.mem_of_getElem? (i := 3) rfl))) (mvT hZ (hw _ (List.mem_of_getElem? (i := 4) rfl))) (by decide) (backOf (W := 0) (rm2 l Z a0 hw [] u_INACTIVE h0 n0 Z0 S_INACTIVE) hZ (hw _ (List.mem_of_getElem? (i := 4) rfl)) (hw _ (List.mem_of_getElem? (i := 3) rfl)) (by decide) (by decide)) (g := (mkF m 8 #[.val (.int p0_0), .val (.int (0 : Int32)), .unset, .unset, .unset, .unset, .unset] [(.int (0 : Int32))])) rfl (by rw [hml]; rfl) (argsL := [(.int (0 : Int32))]) (rest := []) (lenOf pd_0 rfl) rfl (by show 2 * 0 + _ ≤ _; exact Nat.le_of_eq rfl) (hb hby at_8) (fun _ _ => ⟨rfl, e0, (by decide : 0 + 0 ≤ _), (by decide : 0 + 0 ≤ _)⟩)
    dsimp only [Pt.U, Pt.locs, Pt.cells, Pt.slots] at X3 l3 y3 z3 st3 hQ3
    subst l3 y3 z3
    obtain ⟨rfl, N3q, eh3⟩ := hQ3
    have N3 := Fr.app N0 N3q
    obtain ⟨cq4, kq4, q4a, q4b, q4c⟩ := isOf hZ eh3 E_u_INACTIVE
    obtain ⟨_, _, ⟨T4, L4, k4, n4⟩, -, X4, ⟨Lc4, hQ4, l4, y4, z4⟩, st4⟩ := X3.virtualBack hx (y := (⟨"com/example/chop/chop/compiler/Mark", "isWaiting", "()Z"⟩ : MethodName)) (z := (⟨"com/example/chop/chop/compiler/Mark", "isWaiting", "()Z"⟩ : MethodName)) hown (mvT hZ (hw _ (List.mem_of_getElem? (i := 8) rfl))) (mvT hZ (hw _ (List.mem_of_getElem? (i := 9) rfl))) (notFace_of_selects (args := #[]) (mvT hZ (hw _ (List.mem_of_getElem? (i := 11) rfl)))) (mvT hZ (hw _ (List.mem_of_getElem? (i := 11) rfl))) (mvT hZ (hw _ (List.mem_of_getElem? (i := 10) rfl))) (by decide) (backOf (W := 0) (rm3 l Z a0 hw [] u_INACTIVE u_GREATER u_GREATER_EQUAL h0 n0 Z0 S_GREATER S_GREATER_EQUAL ne_INACTIVE_GREATER ne_INACTIVE_GREATER_EQUAL) hZ (hw _ (List.mem_of_getElem? (i := 12) rfl)) (hw _ (List.mem_of_getElem? (i := 6) rfl)) (by decide) (by decide)) q4a q4c (g := (mkF m 13 #[.val (.int p0_0), .val (.int (0 : Int32)), .val (.ref u_INACTIVE), .unset, .unset, .unset, .unset] [(.ref u_INACTIVE)])) rfl (by rw [hml]; rfl) (Steps.refl _) (argsL := []) (rest := []) (lenOf pd_1 rfl) rfl (by show 2 * 0 + _ ≤ _; exact Nat.le_of_eq rfl) (hb hby at_13) (fun _ _ => ⟨rfl, eh3, (by decide : 0 + 0 ≤ _), (by decide : 0 + 0 ≤ _)⟩)
    dsimp only [Pt.U, Pt.locs, Pt.cells, Pt.slots] at X4 l4 y4 z4 st4 hQ4
    subst l4 y4 z4
    obtain ⟨rfl, N4q, eh4⟩ := hQ4
    have N4 := Fr.app N3 N4q
    obtain ⟨cq5, kq5, q5a, q5b, q5c⟩ := isOf hZ eh4 E_u_INACTIVE
    obtain ⟨_, _, ⟨T5, L5, k5, n5⟩, -, X5, ⟨Lc5, hQ5, l5, y5, z5⟩, st5⟩ := X4.virtualBack hx (y := (⟨"com/example/chop/chop/compiler/Mark", "flag", "()Ljava/lang/String;"⟩ : MethodName)) (z := (⟨"com/example/chop/chop/compiler/Mark", "flag", "()Ljava/lang/String;"⟩ : MethodName)) hown (mvT hZ (hw _ (List.mem_of_getElem? (i := 17) rfl))) (mvT hZ (hw _ (List.mem_of_getElem? (i := 18) rfl))) (notFace_of_selects (args := #[]) (mvT hZ (hw _ (List.mem_of_getElem? (i := 20) rfl)))) (mvT hZ (hw _ (List.mem_of_getElem? (i := 20) rfl))) (mvT hZ (hw _ (List.mem_of_getElem? (i := 19) rfl))) (by decide) (backOf (W := 0) (rm1 l Z a0 hw [] u_INACTIVE u_INACTIVE_flag h0 n0 Z0 F_u_INACTIVE_flag) hZ (hw _ (List.mem_of_getElem? (i := 21) rfl)) (hw _ (List.mem_of_getElem? (i := 6) rfl)) (by decide) (by decide)) q5a q5c (g := (mkF m 18 #[.val (.int p0_0), .val (.int (0 : Int32)), .val (.ref u_INACTIVE), .val (.int (0 : Int32)), .unset, .unset, .unset] [(.ref u_INACTIVE)])) rfl (by rw [hml]; rfl) (Steps.refl _) (argsL := []) (rest := []) (lenOf pd_2 rfl) rfl (by show 2 * 0 + _ ≤ _; exact Nat.le_of_eq rfl) (hb hby at_18) (fun _ _ => ⟨rfl, eh4, (by decide : 0 + 0 ≤ _), (by decide : 0 + 0 ≤ _)⟩)
    dsimp only [Pt.U, Pt.locs, Pt.cells, Pt.slots] at X5 l5 y5 z5 st5 hQ5
    subst l5 y5 z5
    obtain ⟨rfl, N5q, eh5⟩ := hQ5
    have N5 := Fr.app N4 N5q
    obtain ⟨cq6, kq6, q6a, q6b, q6c⟩ := isOf hZ eh5 E_u_INACTIVE_flag
    obtain ⟨_, _, ⟨T6, L6, k6, n6⟩, -, X6, ⟨Lc6, hQ6, l6, y6, z6⟩, st6⟩ := X5.virtualBack hx (y := (⟨"java/lang/String", "isEmpty", "()Z"⟩ : MethodName)) (z := (⟨"java/lang/String", "isEmpty", "()Z"⟩ : MethodName)) hown (mvT hZ (hw _ (List.mem_of_getElem? (i := 24) rfl))) (mvT hZ (hw _ (List.mem_of_getElem? (i := 25) rfl))) (notFace_of_selects (args := #[]) (mvT hZ (hw _ (List.mem_of_getElem? (i := 27) rfl)))) (mvT hZ (hw _ (List.mem_of_getElem? (i := 27) rfl))) (mvT hZ (hw _ (List.mem_of_getElem? (i := 26) rfl))) (by decide) (backOf (W := 0) (rms1 l Z a0 hw [] u_INACTIVE_flag u_INACTIVE_flag_value cl_u_INACTIVE_flag_value.cls h0 n0 Z0 F_u_INACTIVE_flag_value V_u_INACTIVE_flag_value) hZ (hw _ (List.mem_of_getElem? (i := 29) rfl)) (hw _ (List.mem_of_getElem? (i := 28) rfl)) (by decide) (by decide)) q6a q6c (g := (mkF m 25 #[.val (.int p0_0), .val (.int (0 : Int32)), .val (.ref u_INACTIVE), .val (.int (0 : Int32)), .val (.ref u_INACTIVE_flag), .unset, .unset] [(.ref u_INACTIVE_flag)])) rfl (by rw [hml]; rfl) (Steps.refl _) (argsL := []) (rest := []) (lenOf pd_1 rfl) rfl (by show 2 * 0 + _ ≤ _; exact Nat.le_of_eq rfl) (hb hby at_25) (fun _ _ => ⟨rfl, eh5, (by decide : 0 + 0 ≤ _), (by decide : 0 + 0 ≤ _)⟩)
    dsimp only [Pt.U, Pt.locs, Pt.cells, Pt.slots] at X6 l6 y6 z6 st6 hQ6
    subst l6 y6 z6
    obtain ⟨rfl, N6q, eh6⟩ := hQ6
    have N6 := Fr.app N5 N6q
    have k7 : ∀ t, Steps p.tables e below (T6.setTop (mkF m 94 #[.val (.int p0_0), .val (.int (0 : Int32)), .val (.ref u_INACTIVE), .val (.int (0 : Int32)), .val (.ref u_INACTIVE_flag), .val (.int (0 : Int32)), .val (.int (0 : Int32))] [(.int (1 : Int32))])) t → Steps p.tables e below (s₁.setTop (entryFrame m #[(.int p0_0)] maxLocals)) t := by
      intro t k
      refine k1 t ?_
      show Steps p.tables e below (s₁.setTop (mkF m 7 #[.val (.int p0_0), .val (.int (0 : Int32)), .unset, .unset, .unset, .unset, .unset] [])) _
      refine XS.iloadN X0.here hx rfl (hb hby at_7) rfl ?_
      show Steps p.tables e below (s₁.setTop (mkF m 8 #[.val (.int p0_0), .val (.int (0 : Int32)), .unset, .unset, .unset, .unset, .unset] [(.int (0 : Int32))])) _
      refine st3 _ ?_
      show Steps p.tables e below (T3.setTop (mkF m 11 #[.val (.int p0_0), .val (.int (0 : Int32)), .unset, .unset, .unset, .unset, .unset] [(.ref u_INACTIVE)])) _
      refine XS.astoreN X3.here hx rfl (hb hby at_11) rfl rfl (l' := #[.val (.int p0_0), .val (.int (0 : Int32)), .val (.ref u_INACTIVE), .unset, .unset, .unset, .unset]) rfl ?_
      show Steps p.tables e below (T3.setTop (mkF m 12 #[.val (.int p0_0), .val (.int (0 : Int32)), .val (.ref u_INACTIVE), .unset, .unset, .unset, .unset] [])) _
      refine XS.aloadN X3.here hx rfl (hb hby at_12) rfl rfl ?_
      show Steps p.tables e below (T3.setTop (mkF m 13 #[.val (.int p0_0), .val (.int (0 : Int32)), .val (.ref u_INACTIVE), .unset, .unset, .unset, .unset] [(.ref u_INACTIVE)])) _
      refine st4.trans ?_
      show Steps p.tables e below (T4.setTop (mkF m 16 #[.val (.int p0_0), .val (.int (0 : Int32)), .val (.ref u_INACTIVE), .unset, .unset, .unset, .unset] [(.int (0 : Int32))])) _
      refine XS.istoreN X4.here hx rfl (hb hby at_16) rfl (l' := #[.val (.int p0_0), .val (.int (0 : Int32)), .val (.ref u_INACTIVE), .val (.int (0 : Int32)), .unset, .unset, .unset]) rfl ?_
      show Steps p.tables e below (T4.setTop (mkF m 17 #[.val (.int p0_0), .val (.int (0 : Int32)), .val (.ref u_INACTIVE), .val (.int (0 : Int32)), .unset, .unset, .unset] [])) _
      refine XS.aloadN X4.here hx rfl (hb hby at_17) rfl rfl ?_
      show Steps p.tables e below (T4.setTop (mkF m 18 #[.val (.int p0_0), .val (.int (0 : Int32)), .val (.ref u_INACTIVE), .val (.int (0 : Int32)), .unset, .unset, .unset] [(.ref u_INACTIVE)])) _
      refine st5.trans ?_
      show Steps p.tables e below (T5.setTop (mkF m 21 #[.val (.int p0_0), .val (.int (0 : Int32)), .val (.ref u_INACTIVE), .val (.int (0 : Int32)), .unset, .unset, .unset] [(.ref u_INACTIVE_flag)])) _
      refine XS.astore X5.here hx rfl (hb hby at_21) rfl rfl (l' := #[.val (.int p0_0), .val (.int (0 : Int32)), .val (.ref u_INACTIVE), .val (.int (0 : Int32)), .val (.ref u_INACTIVE_flag), .unset, .unset]) rfl ?_
      show Steps p.tables e below (T5.setTop (mkF m 23 #[.val (.int p0_0), .val (.int (0 : Int32)), .val (.ref u_INACTIVE), .val (.int (0 : Int32)), .val (.ref u_INACTIVE_flag), .unset, .unset] [])) _
      refine XS.aload X5.here hx rfl (hb hby at_23) rfl rfl ?_
      show Steps p.tables e below (T5.setTop (mkF m 25 #[.val (.int p0_0), .val (.int (0 : Int32)), .val (.ref u_INACTIVE), .val (.int (0 : Int32)), .val (.ref u_INACTIVE_flag), .unset, .unset] [(.ref u_INACTIVE_flag)])) _
      refine st6.trans ?_
      show Steps p.tables e below (T6.setTop (mkF m 28 #[.val (.int p0_0), .val (.int (0 : Int32)), .val (.ref u_INACTIVE), .val (.int (0 : Int32)), .val (.ref u_INACTIVE_flag), .unset, .unset] [(.int (1 : Int32))])) _
      refine XS.ifYes X6.here hx rfl (pc0 := 28) (pc' := 46) rfl (hb hby at_28) rfl ((if0 _ _).trans (feq (by decide : ¬ ((1 : Int32) = (0 : Int32)))).2) (by decide) (by decide) ?_
      show Steps p.tables e below (T6.setTop (mkF m 46 #[.val (.int p0_0), .val (.int (0 : Int32)), .val (.ref u_INACTIVE), .val (.int (0 : Int32)), .val (.ref u_INACTIVE_flag), .unset, .unset] [])) _
      refine XS.iconst X6.here hx rfl (hb hby at_46) ?_
      show Steps p.tables e below (T6.setTop (mkF m 47 #[.val (.int p0_0), .val (.int (0 : Int32)), .val (.ref u_INACTIVE), .val (.int (0 : Int32)), .val (.ref u_INACTIVE_flag), .unset, .unset] [(.int (0 : Int32))])) _
      refine XS.istore X6.here hx rfl (hb hby at_47) rfl (l' := #[.val (.int p0_0), .val (.int (0 : Int32)), .val (.ref u_INACTIVE), .val (.int (0 : Int32)), .val (.ref u_INACTIVE_flag), .val (.int (0 : Int32)), .unset]) rfl ?_
      show Steps p.tables e below (T6.setTop (mkF m 49 #[.val (.int p0_0), .val (.int (0 : Int32)), .val (.ref u_INACTIVE), .val (.int (0 : Int32)), .val (.ref u_INACTIVE_flag), .val (.int (0 : Int32)), .unset] [])) _
      refine XS.iloadN X6.here hx rfl (hb hby at_49) rfl ?_
      show Steps p.tables e below (T6.setTop (mkF m 50 #[.val (.int p0_0), .val (.int (0 : Int32)), .val (.ref u_INACTIVE), .val (.int (0 : Int32)), .val (.ref u_INACTIVE_flag), .val (.int (0 : Int32)), .unset] [(.int (0 : Int32))])) _
      refine XS.iconst X6.here hx rfl (hb hby at_50) ?_
      show Steps p.tables e below (T6.setTop (mkF m 51 #[.val (.int p0_0), .val (.int (0 : Int32)), .val (.ref u_INACTIVE), .val (.int (0 : Int32)), .val (.ref u_INACTIVE_flag), .val (.int (0 : Int32)), .unset] [(.int (3 : Int32)), (.int (0 : Int32))])) _
      refine XS.icmpNo X6.here hx rfl (hb hby at_51) rfl (feq (by decide : ¬ ((0 : Int32) = (3 : Int32)))).1 ?_
      show Steps p.tables e below (T6.setTop (mkF m 54 #[.val (.int p0_0), .val (.int (0 : Int32)), .val (.ref u_INACTIVE), .val (.int (0 : Int32)), .val (.ref u_INACTIVE_flag), .val (.int (0 : Int32)), .unset] [])) _
      refine XS.iloadN X6.here hx rfl (hb hby at_54) rfl ?_
      show Steps p.tables e below (T6.setTop (mkF m 55 #[.val (.int p0_0), .val (.int (0 : Int32)), .val (.ref u_INACTIVE), .val (.int (0 : Int32)), .val (.ref u_INACTIVE_flag), .val (.int (0 : Int32)), .unset] [(.int (0 : Int32))])) _
      refine XS.iconst X6.here hx rfl (hb hby at_55) ?_
      show Steps p.tables e below (T6.setTop (mkF m 56 #[.val (.int p0_0), .val (.int (0 : Int32)), .val (.ref u_INACTIVE), .val (.int (0 : Int32)), .val (.ref u_INACTIVE_flag), .val (.int (0 : Int32)), .unset] [(.int (4 : Int32)), (.int (0 : Int32))])) _
      refine XS.icmpYes X6.here hx rfl (pc0 := 56) (pc' := 63) rfl (hb hby at_56) rfl (feq (by decide : ¬ ((0 : Int32) = (4 : Int32)))).2 (by decide) (by decide) ?_
      show Steps p.tables e below (T6.setTop (mkF m 63 #[.val (.int p0_0), .val (.int (0 : Int32)), .val (.ref u_INACTIVE), .val (.int (0 : Int32)), .val (.ref u_INACTIVE_flag), .val (.int (0 : Int32)), .unset] [])) _
      refine XS.iconst X6.here hx rfl (hb hby at_63) ?_
      show Steps p.tables e below (T6.setTop (mkF m 64 #[.val (.int p0_0), .val (.int (0 : Int32)), .val (.ref u_INACTIVE), .val (.int (0 : Int32)), .val (.ref u_INACTIVE_flag), .val (.int (0 : Int32)), .unset] [(.int (0 : Int32))])) _
      refine XS.istore X6.here hx rfl (hb hby at_64) rfl (l' := #[.val (.int p0_0), .val (.int (0 : Int32)), .val (.ref u_INACTIVE), .val (.int (0 : Int32)), .val (.ref u_INACTIVE_flag), .val (.int (0 : Int32)), .val (.int (0 : Int32))]) rfl ?_
      show Steps p.tables e below (T6.setTop (mkF m 66 #[.val (.int p0_0), .val (.int (0 : Int32)), .val (.ref u_INACTIVE), .val (.int (0 : Int32)), .val (.ref u_INACTIVE_flag), .val (.int (0 : Int32)), .val (.int (0 : Int32))] [])) _
      refine XS.iloadN X6.here hx rfl (hb hby at_66) rfl ?_
      show Steps p.tables e below (T6.setTop (mkF m 67 #[.val (.int p0_0), .val (.int (0 : Int32)), .val (.ref u_INACTIVE), .val (.int (0 : Int32)), .val (.ref u_INACTIVE_flag), .val (.int (0 : Int32)), .val (.int (0 : Int32))] [(.int (0 : Int32))])) _
      refine XS.iload X6.here hx rfl (hb hby at_67) rfl ?_
      show Steps p.tables e below (T6.setTop (mkF m 69 #[.val (.int p0_0), .val (.int (0 : Int32)), .val (.ref u_INACTIVE), .val (.int (0 : Int32)), .val (.ref u_INACTIVE_flag), .val (.int (0 : Int32)), .val (.int (0 : Int32))] [(.int (0 : Int32)), (.int (0 : Int32))])) _
      refine XS.icmpNo X6.here hx rfl (hb hby at_69) rfl (teq (by decide : (0 : Int32) = (0 : Int32))).2 ?_
      show Steps p.tables e below (T6.setTop (mkF m 72 #[.val (.int p0_0), .val (.int (0 : Int32)), .val (.ref u_INACTIVE), .val (.int (0 : Int32)), .val (.ref u_INACTIVE_flag), .val (.int (0 : Int32)), .val (.int (0 : Int32))] [])) _
      refine XS.iloadN X6.here hx rfl (hb hby at_72) rfl ?_
      show Steps p.tables e below (T6.setTop (mkF m 73 #[.val (.int p0_0), .val (.int (0 : Int32)), .val (.ref u_INACTIVE), .val (.int (0 : Int32)), .val (.ref u_INACTIVE_flag), .val (.int (0 : Int32)), .val (.int (0 : Int32))] [(.int (0 : Int32))])) _
      refine XS.iload X6.here hx rfl (hb hby at_73) rfl ?_
      show Steps p.tables e below (T6.setTop (mkF m 75 #[.val (.int p0_0), .val (.int (0 : Int32)), .val (.ref u_INACTIVE), .val (.int (0 : Int32)), .val (.ref u_INACTIVE_flag), .val (.int (0 : Int32)), .val (.int (0 : Int32))] [(.int (0 : Int32)), (.int (0 : Int32))])) _
      refine XS.icmpNo X6.here hx rfl (hb hby at_75) rfl (teq (by decide : (0 : Int32) = (0 : Int32))).2 ?_
      show Steps p.tables e below (T6.setTop (mkF m 78 #[.val (.int p0_0), .val (.int (0 : Int32)), .val (.ref u_INACTIVE), .val (.int (0 : Int32)), .val (.ref u_INACTIVE_flag), .val (.int (0 : Int32)), .val (.int (0 : Int32))] [])) _
      refine XS.iloadN X6.here hx rfl (hb hby at_78) rfl ?_
      show Steps p.tables e below (T6.setTop (mkF m 79 #[.val (.int p0_0), .val (.int (0 : Int32)), .val (.ref u_INACTIVE), .val (.int (0 : Int32)), .val (.ref u_INACTIVE_flag), .val (.int (0 : Int32)), .val (.int (0 : Int32))] [(.int (0 : Int32))])) _
      refine XS.ifYes X6.here hx rfl (pc0 := 79) (pc' := 89) rfl (hb hby at_79) rfl ((if0 _ _).trans (teq (by decide : (0 : Int32) = (0 : Int32))).1) (by decide) (by decide) ?_
      show Steps p.tables e below (T6.setTop (mkF m 89 #[.val (.int p0_0), .val (.int (0 : Int32)), .val (.ref u_INACTIVE), .val (.int (0 : Int32)), .val (.ref u_INACTIVE_flag), .val (.int (0 : Int32)), .val (.int (0 : Int32))] [])) _
      refine XS.iconst X6.here hx rfl (hb hby at_89) ?_
      show Steps p.tables e below (T6.setTop (mkF m 90 #[.val (.int p0_0), .val (.int (0 : Int32)), .val (.ref u_INACTIVE), .val (.int (0 : Int32)), .val (.ref u_INACTIVE_flag), .val (.int (0 : Int32)), .val (.int (0 : Int32))] [(.int (1 : Int32))])) _
      refine XS.goto X6.here hx rfl (pc0 := 90) (pc' := 94) rfl (hb hby at_90) (by decide) (by decide) ?_
      exact k
    obtain ⟨fs, hr, hrun, hended, hW, hsame⟩ := X6.leave (v := some (.int (1 : Int32))) (fun h => by rw [Bd.returns] at h; cases h)
    refine ⟨_, _, k7 _ ?_, hrun, hended, _, _, rfl, ?_, ⟨_, rfl⟩, hW, hsame.mono (by decide) (by decide)⟩
    · exact retN X6 hx (t := .boolean) Bd.returns (by simp) (hb hby at_94) hr
    · show Q0 Z p0_0 u_INACTIVE u_GREATER u_GREATER_EQUAL u_INACTIVE_flag u_INACTIVE_flag_value cl_u_INACTIVE_flag_value u_GREATER_flag u_GREATER_flag_value cl_u_GREATER_flag_value u_ACTIVE u_GREATER_EQUAL_flag u_GREATER_EQUAL_flag_value cl_u_GREATER_EQUAL_flag_value u_LESS u_LESS_flag u_LESS_flag_value cl_u_LESS_flag_value cs fm h0 n0 _ T6.heap _
      rw [eh6]
      exact ⟨rfl, N6⟩
  · skip
    obtain ⟨_, _, ⟨T8, L8, k8, n8⟩, -, X8, ⟨Lc8, hQ8, l8, y8, z8⟩, st8⟩ := Jvm.LawKit.callS X0 hx (y := (⟨"com/example/chop/chop/compiler/MarkIsWaitingPinLaw", "pick", "(I)Lcom/example/chop/chop/compiler/Mark;"⟩ : MethodName)) hown (mvT hZ (hw _ (List.mem_of_getElem? (i := 1) rfl))) (mvT hZ (hw _ (List.mem_of_getElem? (i := 2) rfl))) (mvT hZ (hw _ (List.mem_of_getElem? (i := 3) rfl))) (mvT hZ (hw _ (List.mem_of_getElem? (i := 4) rfl))) (by decide) (backOf (W := 0) (rm5 l Z a0 hw [] u_ACTIVE h0 n0 Z0 S_ACTIVE) hZ (hw _ (List.mem_of_getElem? (i := 4) rfl)) (hw _ (List.mem_of_getElem? (i := 3) rfl)) (by decide) (by decide)) (g := (mkF m 8 #[.val (.int p0_0), .val (.int (1 : Int32)), .unset, .unset, .unset, .unset, .unset] [(.int (1 : Int32))])) rfl (by rw [hml]; rfl) (argsL := [(.int (1 : Int32))]) (rest := []) (lenOf pd_0 rfl) rfl (by show 2 * 0 + _ ≤ _; exact Nat.le_of_eq rfl) (hb hby at_8) (fun _ _ => ⟨rfl, e0, (by decide : 0 + 0 ≤ _), (by decide : 0 + 0 ≤ _)⟩)
    dsimp only [Pt.U, Pt.locs, Pt.cells, Pt.slots] at X8 l8 y8 z8 st8 hQ8
    subst l8 y8 z8
    obtain ⟨rfl, N8q, eh8⟩ := hQ8
    have N8 := Fr.app N0 N8q
    obtain ⟨cq9, kq9, q9a, q9b, q9c⟩ := isOf hZ eh8 E_u_ACTIVE
    obtain ⟨_, _, ⟨T9, L9, k9, n9⟩, -, X9, ⟨Lc9, hQ9, l9, y9, z9⟩, st9⟩ := X8.virtualBack hx (y := (⟨"com/example/chop/chop/compiler/Mark", "isWaiting", "()Z"⟩ : MethodName)) (z := (⟨"com/example/chop/chop/compiler/Mark", "isWaiting", "()Z"⟩ : MethodName)) hown (mvT hZ (hw _ (List.mem_of_getElem? (i := 8) rfl))) (mvT hZ (hw _ (List.mem_of_getElem? (i := 9) rfl))) (notFace_of_selects (args := #[]) (mvT hZ (hw _ (List.mem_of_getElem? (i := 11) rfl)))) (mvT hZ (hw _ (List.mem_of_getElem? (i := 11) rfl))) (mvT hZ (hw _ (List.mem_of_getElem? (i := 10) rfl))) (by decide) (backOf (W := 0) (rm6 l Z a0 hw [] u_ACTIVE u_GREATER u_GREATER_EQUAL h0 n0 Z0 S_GREATER S_GREATER_EQUAL ne_ACTIVE_GREATER ne_ACTIVE_GREATER_EQUAL) hZ (hw _ (List.mem_of_getElem? (i := 12) rfl)) (hw _ (List.mem_of_getElem? (i := 6) rfl)) (by decide) (by decide)) q9a q9c (g := (mkF m 13 #[.val (.int p0_0), .val (.int (1 : Int32)), .val (.ref u_ACTIVE), .unset, .unset, .unset, .unset] [(.ref u_ACTIVE)])) rfl (by rw [hml]; rfl) (Steps.refl _) (argsL := []) (rest := []) (lenOf pd_1 rfl) rfl (by show 2 * 0 + _ ≤ _; exact Nat.le_of_eq rfl) (hb hby at_13) (fun _ _ => ⟨rfl, eh8, (by decide : 0 + 0 ≤ _), (by decide : 0 + 0 ≤ _)⟩)
    dsimp only [Pt.U, Pt.locs, Pt.cells, Pt.slots] at X9 l9 y9 z9 st9 hQ9
    subst l9 y9 z9
    obtain ⟨rfl, N9q, eh9⟩ := hQ9
    have N9 := Fr.app N8 N9q
    obtain ⟨cq10, kq10, q10a, q10b, q10c⟩ := isOf hZ eh9 E_u_ACTIVE
    obtain ⟨_, _, ⟨T10, L10, k10, n10⟩, -, X10, ⟨Lc10, hQ10, l10, y10, z10⟩, st10⟩ := X9.virtualBack hx (y := (⟨"com/example/chop/chop/compiler/Mark", "flag", "()Ljava/lang/String;"⟩ : MethodName)) (z := (⟨"com/example/chop/chop/compiler/Mark", "flag", "()Ljava/lang/String;"⟩ : MethodName)) hown (mvT hZ (hw _ (List.mem_of_getElem? (i := 17) rfl))) (mvT hZ (hw _ (List.mem_of_getElem? (i := 18) rfl))) (notFace_of_selects (args := #[]) (mvT hZ (hw _ (List.mem_of_getElem? (i := 20) rfl)))) (mvT hZ (hw _ (List.mem_of_getElem? (i := 20) rfl))) (mvT hZ (hw _ (List.mem_of_getElem? (i := 19) rfl))) (by decide) (backOf (W := 0) (rm1 l Z a0 hw [] u_ACTIVE u_INACTIVE_flag h0 n0 Z0 F_u_ACTIVE_flag) hZ (hw _ (List.mem_of_getElem? (i := 21) rfl)) (hw _ (List.mem_of_getElem? (i := 6) rfl)) (by decide) (by decide)) q10a q10c (g := (mkF m 18 #[.val (.int p0_0), .val (.int (1 : Int32)), .val (.ref u_ACTIVE), .val (.int (0 : Int32)), .unset, .unset, .unset] [(.ref u_ACTIVE)])) rfl (by rw [hml]; rfl) (Steps.refl _) (argsL := []) (rest := []) (lenOf pd_2 rfl) rfl (by show 2 * 0 + _ ≤ _; exact Nat.le_of_eq rfl) (hb hby at_18) (fun _ _ => ⟨rfl, eh9, (by decide : 0 + 0 ≤ _), (by decide : 0 + 0 ≤ _)⟩)
    dsimp only [Pt.U, Pt.locs, Pt.cells, Pt.slots] at X10 l10 y10 z10 st10 hQ10
    subst l10 y10 z10
    obtain ⟨rfl, N10q, eh10⟩ := hQ10
    have N10 := Fr.app N9 N10q
    obtain ⟨cq11, kq11, q11a, q11b, q11c⟩ := isOf hZ eh10 E_u_INACTIVE_flag
    obtain ⟨_, _, ⟨T11, L11, k11, n11⟩, -, X11, ⟨Lc11, hQ11, l11, y11, z11⟩, st11⟩ := X10.virtualBack hx (y := (⟨"java/lang/String", "isEmpty", "()Z"⟩ : MethodName)) (z := (⟨"java/lang/String", "isEmpty", "()Z"⟩ : MethodName)) hown (mvT hZ (hw _ (List.mem_of_getElem? (i := 24) rfl))) (mvT hZ (hw _ (List.mem_of_getElem? (i := 25) rfl))) (notFace_of_selects (args := #[]) (mvT hZ (hw _ (List.mem_of_getElem? (i := 27) rfl)))) (mvT hZ (hw _ (List.mem_of_getElem? (i := 27) rfl))) (mvT hZ (hw _ (List.mem_of_getElem? (i := 26) rfl))) (by decide) (backOf (W := 0) (rms1 l Z a0 hw [] u_INACTIVE_flag u_INACTIVE_flag_value cl_u_INACTIVE_flag_value.cls h0 n0 Z0 F_u_INACTIVE_flag_value V_u_INACTIVE_flag_value) hZ (hw _ (List.mem_of_getElem? (i := 29) rfl)) (hw _ (List.mem_of_getElem? (i := 28) rfl)) (by decide) (by decide)) q11a q11c (g := (mkF m 25 #[.val (.int p0_0), .val (.int (1 : Int32)), .val (.ref u_ACTIVE), .val (.int (0 : Int32)), .val (.ref u_INACTIVE_flag), .unset, .unset] [(.ref u_INACTIVE_flag)])) rfl (by rw [hml]; rfl) (Steps.refl _) (argsL := []) (rest := []) (lenOf pd_1 rfl) rfl (by show 2 * 0 + _ ≤ _; exact Nat.le_of_eq rfl) (hb hby at_25) (fun _ _ => ⟨rfl, eh10, (by decide : 0 + 0 ≤ _), (by decide : 0 + 0 ≤ _)⟩)
    dsimp only [Pt.U, Pt.locs, Pt.cells, Pt.slots] at X11 l11 y11 z11 st11 hQ11
    subst l11 y11 z11
    obtain ⟨rfl, N11q, eh11⟩ := hQ11
    have N11 := Fr.app N10 N11q
    have k12 : ∀ t, Steps p.tables e below (T11.setTop (mkF m 94 #[.val (.int p0_0), .val (.int (1 : Int32)), .val (.ref u_ACTIVE), .val (.int (0 : Int32)), .val (.ref u_INACTIVE_flag), .val (.int (0 : Int32)), .val (.int (0 : Int32))] [(.int (1 : Int32))])) t → Steps p.tables e below (s₁.setTop (entryFrame m #[(.int p0_0)] maxLocals)) t := by
      intro t k
      refine k1 t ?_
      show Steps p.tables e below (s₁.setTop (mkF m 7 #[.val (.int p0_0), .val (.int (1 : Int32)), .unset, .unset, .unset, .unset, .unset] [])) _
      refine XS.iloadN X0.here hx rfl (hb hby at_7) rfl ?_
      show Steps p.tables e below (s₁.setTop (mkF m 8 #[.val (.int p0_0), .val (.int (1 : Int32)), .unset, .unset, .unset, .unset, .unset] [(.int (1 : Int32))])) _
      refine st8 _ ?_
      show Steps p.tables e below (T8.setTop (mkF m 11 #[.val (.int p0_0), .val (.int (1 : Int32)), .unset, .unset, .unset, .unset, .unset] [(.ref u_ACTIVE)])) _
      refine XS.astoreN X8.here hx rfl (hb hby at_11) rfl rfl (l' := #[.val (.int p0_0), .val (.int (1 : Int32)), .val (.ref u_ACTIVE), .unset, .unset, .unset, .unset]) rfl ?_
      show Steps p.tables e below (T8.setTop (mkF m 12 #[.val (.int p0_0), .val (.int (1 : Int32)), .val (.ref u_ACTIVE), .unset, .unset, .unset, .unset] [])) _
      refine XS.aloadN X8.here hx rfl (hb hby at_12) rfl rfl ?_
      show Steps p.tables e below (T8.setTop (mkF m 13 #[.val (.int p0_0), .val (.int (1 : Int32)), .val (.ref u_ACTIVE), .unset, .unset, .unset, .unset] [(.ref u_ACTIVE)])) _
      refine st9.trans ?_
      show Steps p.tables e below (T9.setTop (mkF m 16 #[.val (.int p0_0), .val (.int (1 : Int32)), .val (.ref u_ACTIVE), .unset, .unset, .unset, .unset] [(.int (0 : Int32))])) _
      refine XS.istoreN X9.here hx rfl (hb hby at_16) rfl (l' := #[.val (.int p0_0), .val (.int (1 : Int32)), .val (.ref u_ACTIVE), .val (.int (0 : Int32)), .unset, .unset, .unset]) rfl ?_
      show Steps p.tables e below (T9.setTop (mkF m 17 #[.val (.int p0_0), .val (.int (1 : Int32)), .val (.ref u_ACTIVE), .val (.int (0 : Int32)), .unset, .unset, .unset] [])) _
      refine XS.aloadN X9.here hx rfl (hb hby at_17) rfl rfl ?_
      show Steps p.tables e below (T9.setTop (mkF m 18 #[.val (.int p0_0), .val (.int (1 : Int32)), .val (.ref u_ACTIVE), .val (.int (0 : Int32)), .unset, .unset, .unset] [(.ref u_ACTIVE)])) _
      refine st10.trans ?_
      show Steps p.tables e below (T10.setTop (mkF m 21 #[.val (.int p0_0), .val (.int (1 : Int32)), .val (.ref u_ACTIVE), .val (.int (0 : Int32)), .unset, .unset, .unset] [(.ref u_INACTIVE_flag)])) _
      refine XS.astore X10.here hx rfl (hb hby at_21) rfl rfl (l' := #[.val (.int p0_0), .val (.int (1 : Int32)), .val (.ref u_ACTIVE), .val (.int (0 : Int32)), .val (.ref u_INACTIVE_flag), .unset, .unset]) rfl ?_
      show Steps p.tables e below (T10.setTop (mkF m 23 #[.val (.int p0_0), .val (.int (1 : Int32)), .val (.ref u_ACTIVE), .val (.int (0 : Int32)), .val (.ref u_INACTIVE_flag), .unset, .unset] [])) _
      refine XS.aload X10.here hx rfl (hb hby at_23) rfl rfl ?_
      show Steps p.tables e below (T10.setTop (mkF m 25 #[.val (.int p0_0), .val (.int (1 : Int32)), .val (.ref u_ACTIVE), .val (.int (0 : Int32)), .val (.ref u_INACTIVE_flag), .unset, .unset] [(.ref u_INACTIVE_flag)])) _
      refine st11.trans ?_
      show Steps p.tables e below (T11.setTop (mkF m 28 #[.val (.int p0_0), .val (.int (1 : Int32)), .val (.ref u_ACTIVE), .val (.int (0 : Int32)), .val (.ref u_INACTIVE_flag), .unset, .unset] [(.int (1 : Int32))])) _
      refine XS.ifYes X11.here hx rfl (pc0 := 28) (pc' := 46) rfl (hb hby at_28) rfl ((if0 _ _).trans (feq (by decide : ¬ ((1 : Int32) = (0 : Int32)))).2) (by decide) (by decide) ?_
      show Steps p.tables e below (T11.setTop (mkF m 46 #[.val (.int p0_0), .val (.int (1 : Int32)), .val (.ref u_ACTIVE), .val (.int (0 : Int32)), .val (.ref u_INACTIVE_flag), .unset, .unset] [])) _
      refine XS.iconst X11.here hx rfl (hb hby at_46) ?_
      show Steps p.tables e below (T11.setTop (mkF m 47 #[.val (.int p0_0), .val (.int (1 : Int32)), .val (.ref u_ACTIVE), .val (.int (0 : Int32)), .val (.ref u_INACTIVE_flag), .unset, .unset] [(.int (0 : Int32))])) _
      refine XS.istore X11.here hx rfl (hb hby at_47) rfl (l' := #[.val (.int p0_0), .val (.int (1 : Int32)), .val (.ref u_ACTIVE), .val (.int (0 : Int32)), .val (.ref u_INACTIVE_flag), .val (.int (0 : Int32)), .unset]) rfl ?_
      show Steps p.tables e below (T11.setTop (mkF m 49 #[.val (.int p0_0), .val (.int (1 : Int32)), .val (.ref u_ACTIVE), .val (.int (0 : Int32)), .val (.ref u_INACTIVE_flag), .val (.int (0 : Int32)), .unset] [])) _
      refine XS.iloadN X11.here hx rfl (hb hby at_49) rfl ?_
      show Steps p.tables e below (T11.setTop (mkF m 50 #[.val (.int p0_0), .val (.int (1 : Int32)), .val (.ref u_ACTIVE), .val (.int (0 : Int32)), .val (.ref u_INACTIVE_flag), .val (.int (0 : Int32)), .unset] [(.int (1 : Int32))])) _
      refine XS.iconst X11.here hx rfl (hb hby at_50) ?_
      show Steps p.tables e below (T11.setTop (mkF m 51 #[.val (.int p0_0), .val (.int (1 : Int32)), .val (.ref u_ACTIVE), .val (.int (0 : Int32)), .val (.ref u_INACTIVE_flag), .val (.int (0 : Int32)), .unset] [(.int (3 : Int32)), (.int (1 : Int32))])) _
      refine XS.icmpNo X11.here hx rfl (hb hby at_51) rfl (feq (by decide : ¬ ((1 : Int32) = (3 : Int32)))).1 ?_
      show Steps p.tables e below (T11.setTop (mkF m 54 #[.val (.int p0_0), .val (.int (1 : Int32)), .val (.ref u_ACTIVE), .val (.int (0 : Int32)), .val (.ref u_INACTIVE_flag), .val (.int (0 : Int32)), .unset] [])) _
      refine XS.iloadN X11.here hx rfl (hb hby at_54) rfl ?_
      show Steps p.tables e below (T11.setTop (mkF m 55 #[.val (.int p0_0), .val (.int (1 : Int32)), .val (.ref u_ACTIVE), .val (.int (0 : Int32)), .val (.ref u_INACTIVE_flag), .val (.int (0 : Int32)), .unset] [(.int (1 : Int32))])) _
      refine XS.iconst X11.here hx rfl (hb hby at_55) ?_
      show Steps p.tables e below (T11.setTop (mkF m 56 #[.val (.int p0_0), .val (.int (1 : Int32)), .val (.ref u_ACTIVE), .val (.int (0 : Int32)), .val (.ref u_INACTIVE_flag), .val (.int (0 : Int32)), .unset] [(.int (4 : Int32)), (.int (1 : Int32))])) _
      refine XS.icmpYes X11.here hx rfl (pc0 := 56) (pc' := 63) rfl (hb hby at_56) rfl (feq (by decide : ¬ ((1 : Int32) = (4 : Int32)))).2 (by decide) (by decide) ?_
      show Steps p.tables e below (T11.setTop (mkF m 63 #[.val (.int p0_0), .val (.int (1 : Int32)), .val (.ref u_ACTIVE), .val (.int (0 : Int32)), .val (.ref u_INACTIVE_flag), .val (.int (0 : Int32)), .unset] [])) _
      refine XS.iconst X11.here hx rfl (hb hby at_63) ?_
      show Steps p.tables e below (T11.setTop (mkF m 64 #[.val (.int p0_0), .val (.int (1 : Int32)), .val (.ref u_ACTIVE), .val (.int (0 : Int32)), .val (.ref u_INACTIVE_flag), .val (.int (0 : Int32)), .unset] [(.int (0 : Int32))])) _
      refine XS.istore X11.here hx rfl (hb hby at_64) rfl (l' := #[.val (.int p0_0), .val (.int (1 : Int32)), .val (.ref u_ACTIVE), .val (.int (0 : Int32)), .val (.ref u_INACTIVE_flag), .val (.int (0 : Int32)), .val (.int (0 : Int32))]) rfl ?_
      show Steps p.tables e below (T11.setTop (mkF m 66 #[.val (.int p0_0), .val (.int (1 : Int32)), .val (.ref u_ACTIVE), .val (.int (0 : Int32)), .val (.ref u_INACTIVE_flag), .val (.int (0 : Int32)), .val (.int (0 : Int32))] [])) _
      refine XS.iloadN X11.here hx rfl (hb hby at_66) rfl ?_
      show Steps p.tables e below (T11.setTop (mkF m 67 #[.val (.int p0_0), .val (.int (1 : Int32)), .val (.ref u_ACTIVE), .val (.int (0 : Int32)), .val (.ref u_INACTIVE_flag), .val (.int (0 : Int32)), .val (.int (0 : Int32))] [(.int (0 : Int32))])) _
      refine XS.iload X11.here hx rfl (hb hby at_67) rfl ?_
      show Steps p.tables e below (T11.setTop (mkF m 69 #[.val (.int p0_0), .val (.int (1 : Int32)), .val (.ref u_ACTIVE), .val (.int (0 : Int32)), .val (.ref u_INACTIVE_flag), .val (.int (0 : Int32)), .val (.int (0 : Int32))] [(.int (0 : Int32)), (.int (0 : Int32))])) _
      refine XS.icmpNo X11.here hx rfl (hb hby at_69) rfl (teq (by decide : (0 : Int32) = (0 : Int32))).2 ?_
      show Steps p.tables e below (T11.setTop (mkF m 72 #[.val (.int p0_0), .val (.int (1 : Int32)), .val (.ref u_ACTIVE), .val (.int (0 : Int32)), .val (.ref u_INACTIVE_flag), .val (.int (0 : Int32)), .val (.int (0 : Int32))] [])) _
      refine XS.iloadN X11.here hx rfl (hb hby at_72) rfl ?_
      show Steps p.tables e below (T11.setTop (mkF m 73 #[.val (.int p0_0), .val (.int (1 : Int32)), .val (.ref u_ACTIVE), .val (.int (0 : Int32)), .val (.ref u_INACTIVE_flag), .val (.int (0 : Int32)), .val (.int (0 : Int32))] [(.int (0 : Int32))])) _
      refine XS.iload X11.here hx rfl (hb hby at_73) rfl ?_
      show Steps p.tables e below (T11.setTop (mkF m 75 #[.val (.int p0_0), .val (.int (1 : Int32)), .val (.ref u_ACTIVE), .val (.int (0 : Int32)), .val (.ref u_INACTIVE_flag), .val (.int (0 : Int32)), .val (.int (0 : Int32))] [(.int (0 : Int32)), (.int (0 : Int32))])) _
      refine XS.icmpNo X11.here hx rfl (hb hby at_75) rfl (teq (by decide : (0 : Int32) = (0 : Int32))).2 ?_
      show Steps p.tables e below (T11.setTop (mkF m 78 #[.val (.int p0_0), .val (.int (1 : Int32)), .val (.ref u_ACTIVE), .val (.int (0 : Int32)), .val (.ref u_INACTIVE_flag), .val (.int (0 : Int32)), .val (.int (0 : Int32))] [])) _
      refine XS.iloadN X11.here hx rfl (hb hby at_78) rfl ?_
      show Steps p.tables e below (T11.setTop (mkF m 79 #[.val (.int p0_0), .val (.int (1 : Int32)), .val (.ref u_ACTIVE), .val (.int (0 : Int32)), .val (.ref u_INACTIVE_flag), .val (.int (0 : Int32)), .val (.int (0 : Int32))] [(.int (0 : Int32))])) _
      refine XS.ifYes X11.here hx rfl (pc0 := 79) (pc' := 89) rfl (hb hby at_79) rfl ((if0 _ _).trans (teq (by decide : (0 : Int32) = (0 : Int32))).1) (by decide) (by decide) ?_
      show Steps p.tables e below (T11.setTop (mkF m 89 #[.val (.int p0_0), .val (.int (1 : Int32)), .val (.ref u_ACTIVE), .val (.int (0 : Int32)), .val (.ref u_INACTIVE_flag), .val (.int (0 : Int32)), .val (.int (0 : Int32))] [])) _
      refine XS.iconst X11.here hx rfl (hb hby at_89) ?_
      show Steps p.tables e below (T11.setTop (mkF m 90 #[.val (.int p0_0), .val (.int (1 : Int32)), .val (.ref u_ACTIVE), .val (.int (0 : Int32)), .val (.ref u_INACTIVE_flag), .val (.int (0 : Int32)), .val (.int (0 : Int32))] [(.int (1 : Int32))])) _
      refine XS.goto X11.here hx rfl (pc0 := 90) (pc' := 94) rfl (hb hby at_90) (by decide) (by decide) ?_
      exact k
    obtain ⟨fs, hr, hrun, hended, hW, hsame⟩ := X11.leave (v := some (.int (1 : Int32))) (fun h => by rw [Bd.returns] at h; cases h)
    refine ⟨_, _, k12 _ ?_, hrun, hended, _, _, rfl, ?_, ⟨_, rfl⟩, hW, hsame.mono (by decide) (by decide)⟩
    · exact retN X11 hx (t := .boolean) Bd.returns (by simp) (hb hby at_94) hr
    · show Q0 Z p0_0 u_INACTIVE u_GREATER u_GREATER_EQUAL u_INACTIVE_flag u_INACTIVE_flag_value cl_u_INACTIVE_flag_value u_GREATER_flag u_GREATER_flag_value cl_u_GREATER_flag_value u_ACTIVE u_GREATER_EQUAL_flag u_GREATER_EQUAL_flag_value cl_u_GREATER_EQUAL_flag_value u_LESS u_LESS_flag u_LESS_flag_value cl_u_LESS_flag_value cs fm h0 n0 _ T11.heap _
      rw [eh11]
      exact ⟨rfl, N11⟩
  · skip
    obtain ⟨_, _, ⟨T13, L13, k13, n13⟩, -, X13, ⟨Lc13, hQ13, l13, y13, z13⟩, st13⟩ := Jvm.LawKit.callS X0 hx (y := (⟨"com/example/chop/chop/compiler/MarkIsWaitingPinLaw", "pick", "(I)Lcom/example/chop/chop/compiler/Mark;"⟩ : MethodName)) hown (mvT hZ (hw _ (List.mem_of_getElem? (i := 1) rfl))) (mvT hZ (hw _ (List.mem_of_getElem? (i := 2) rfl))) (mvT hZ (hw _ (List.mem_of_getElem? (i := 3) rfl))) (mvT hZ (hw _ (List.mem_of_getElem? (i := 4) rfl))) (by decide) (backOf (W := 0) (rm8 l Z a0 hw [] u_LESS h0 n0 Z0 S_LESS) hZ (hw _ (List.mem_of_getElem? (i := 4) rfl)) (hw _ (List.mem_of_getElem? (i := 3) rfl)) (by decide) (by decide)) (g := (mkF m 8 #[.val (.int p0_0), .val (.int (2 : Int32)), .unset, .unset, .unset, .unset, .unset] [(.int (2 : Int32))])) rfl (by rw [hml]; rfl) (argsL := [(.int (2 : Int32))]) (rest := []) (lenOf pd_0 rfl) rfl (by show 2 * 0 + _ ≤ _; exact Nat.le_of_eq rfl) (hb hby at_8) (fun _ _ => ⟨rfl, e0, (by decide : 0 + 0 ≤ _), (by decide : 0 + 0 ≤ _)⟩)
    dsimp only [Pt.U, Pt.locs, Pt.cells, Pt.slots] at X13 l13 y13 z13 st13 hQ13
    subst l13 y13 z13
    obtain ⟨rfl, N13q, eh13⟩ := hQ13
    have N13 := Fr.app N0 N13q
    obtain ⟨cq14, kq14, q14a, q14b, q14c⟩ := isOf hZ eh13 E_u_LESS
    obtain ⟨_, _, ⟨T14, L14, k14, n14⟩, -, X14, ⟨Lc14, hQ14, l14, y14, z14⟩, st14⟩ := X13.virtualBack hx (y := (⟨"com/example/chop/chop/compiler/Mark", "isWaiting", "()Z"⟩ : MethodName)) (z := (⟨"com/example/chop/chop/compiler/Mark", "isWaiting", "()Z"⟩ : MethodName)) hown (mvT hZ (hw _ (List.mem_of_getElem? (i := 8) rfl))) (mvT hZ (hw _ (List.mem_of_getElem? (i := 9) rfl))) (notFace_of_selects (args := #[]) (mvT hZ (hw _ (List.mem_of_getElem? (i := 11) rfl)))) (mvT hZ (hw _ (List.mem_of_getElem? (i := 11) rfl))) (mvT hZ (hw _ (List.mem_of_getElem? (i := 10) rfl))) (by decide) (backOf (W := 0) (rm9 l Z a0 hw [] u_LESS u_GREATER u_GREATER_EQUAL h0 n0 Z0 S_GREATER S_GREATER_EQUAL ne_LESS_GREATER ne_LESS_GREATER_EQUAL) hZ (hw _ (List.mem_of_getElem? (i := 12) rfl)) (hw _ (List.mem_of_getElem? (i := 6) rfl)) (by decide) (by decide)) q14a q14c (g := (mkF m 13 #[.val (.int p0_0), .val (.int (2 : Int32)), .val (.ref u_LESS), .unset, .unset, .unset, .unset] [(.ref u_LESS)])) rfl (by rw [hml]; rfl) (Steps.refl _) (argsL := []) (rest := []) (lenOf pd_1 rfl) rfl (by show 2 * 0 + _ ≤ _; exact Nat.le_of_eq rfl) (hb hby at_13) (fun _ _ => ⟨rfl, eh13, (by decide : 0 + 0 ≤ _), (by decide : 0 + 0 ≤ _)⟩)
    dsimp only [Pt.U, Pt.locs, Pt.cells, Pt.slots] at X14 l14 y14 z14 st14 hQ14
    subst l14 y14 z14
    obtain ⟨rfl, N14q, eh14⟩ := hQ14
    have N14 := Fr.app N13 N14q
    obtain ⟨cq15, kq15, q15a, q15b, q15c⟩ := isOf hZ eh14 E_u_LESS
    obtain ⟨_, _, ⟨T15, L15, k15, n15⟩, -, X15, ⟨Lc15, hQ15, l15, y15, z15⟩, st15⟩ := X14.virtualBack hx (y := (⟨"com/example/chop/chop/compiler/Mark", "flag", "()Ljava/lang/String;"⟩ : MethodName)) (z := (⟨"com/example/chop/chop/compiler/Mark", "flag", "()Ljava/lang/String;"⟩ : MethodName)) hown (mvT hZ (hw _ (List.mem_of_getElem? (i := 17) rfl))) (mvT hZ (hw _ (List.mem_of_getElem? (i := 18) rfl))) (notFace_of_selects (args := #[]) (mvT hZ (hw _ (List.mem_of_getElem? (i := 20) rfl)))) (mvT hZ (hw _ (List.mem_of_getElem? (i := 20) rfl))) (mvT hZ (hw _ (List.mem_of_getElem? (i := 19) rfl))) (by decide) (backOf (W := 0) (rm1 l Z a0 hw [] u_LESS u_LESS_flag h0 n0 Z0 F_u_LESS_flag) hZ (hw _ (List.mem_of_getElem? (i := 21) rfl)) (hw _ (List.mem_of_getElem? (i := 6) rfl)) (by decide) (by decide)) q15a q15c (g := (mkF m 18 #[.val (.int p0_0), .val (.int (2 : Int32)), .val (.ref u_LESS), .val (.int (0 : Int32)), .unset, .unset, .unset] [(.ref u_LESS)])) rfl (by rw [hml]; rfl) (Steps.refl _) (argsL := []) (rest := []) (lenOf pd_2 rfl) rfl (by show 2 * 0 + _ ≤ _; exact Nat.le_of_eq rfl) (hb hby at_18) (fun _ _ => ⟨rfl, eh14, (by decide : 0 + 0 ≤ _), (by decide : 0 + 0 ≤ _)⟩)
    dsimp only [Pt.U, Pt.locs, Pt.cells, Pt.slots] at X15 l15 y15 z15 st15 hQ15
    subst l15 y15 z15
    obtain ⟨rfl, N15q, eh15⟩ := hQ15
    have N15 := Fr.app N14 N15q
    obtain ⟨cq16, kq16, q16a, q16b, q16c⟩ := isOf hZ eh15 E_u_LESS_flag
    obtain ⟨_, _, ⟨T16, L16, k16, n16⟩, -, X16, ⟨Lc16, hQ16, l16, y16, z16⟩, st16⟩ := X15.virtualBack hx (y := (⟨"java/lang/String", "isEmpty", "()Z"⟩ : MethodName)) (z := (⟨"java/lang/String", "isEmpty", "()Z"⟩ : MethodName)) hown (mvT hZ (hw _ (List.mem_of_getElem? (i := 24) rfl))) (mvT hZ (hw _ (List.mem_of_getElem? (i := 25) rfl))) (notFace_of_selects (args := #[]) (mvT hZ (hw _ (List.mem_of_getElem? (i := 27) rfl)))) (mvT hZ (hw _ (List.mem_of_getElem? (i := 27) rfl))) (mvT hZ (hw _ (List.mem_of_getElem? (i := 26) rfl))) (by decide) (backOf (W := 0) (rms2 l Z a0 hw [] u_LESS_flag u_LESS_flag_value cl_u_LESS_flag_value.cls h0 n0 Z0 F_u_LESS_flag_value V_u_LESS_flag_value) hZ (hw _ (List.mem_of_getElem? (i := 29) rfl)) (hw _ (List.mem_of_getElem? (i := 28) rfl)) (by decide) (by decide)) q16a q16c (g := (mkF m 25 #[.val (.int p0_0), .val (.int (2 : Int32)), .val (.ref u_LESS), .val (.int (0 : Int32)), .val (.ref u_LESS_flag), .unset, .unset] [(.ref u_LESS_flag)])) rfl (by rw [hml]; rfl) (Steps.refl _) (argsL := []) (rest := []) (lenOf pd_1 rfl) rfl (by show 2 * 0 + _ ≤ _; exact Nat.le_of_eq rfl) (hb hby at_25) (fun _ _ => ⟨rfl, eh15, (by decide : 0 + 0 ≤ _), (by decide : 0 + 0 ≤ _)⟩)
    dsimp only [Pt.U, Pt.locs, Pt.cells, Pt.slots] at X16 l16 y16 z16 st16 hQ16
    subst l16 y16 z16
    obtain ⟨rfl, N16q, eh16⟩ := hQ16
    have N16 := Fr.app N15 N16q
    obtain ⟨cq17, kq17, q17a, q17b, q17c⟩ := isOf hZ eh16 E_u_LESS_flag
    obtain ⟨_, _, ⟨T17, L17, k17, n17⟩, -, X17, ⟨Lc17, hQ17, l17, y17, z17⟩, st17⟩ := X16.virtualBack hx (y := (⟨"java/lang/String", "charAt", "(I)C"⟩ : MethodName)) (z := (⟨"java/lang/String", "charAt", "(I)C"⟩ : MethodName)) hown (mvT hZ (hw _ (List.mem_of_getElem? (i := 33) rfl))) (mvT hZ (hw _ (List.mem_of_getElem? (i := 34) rfl))) (notFace_of_selects (args := #[]) (mvT hZ (hw _ (List.mem_of_getElem? (i := 36) rfl)))) (mvT hZ (hw _ (List.mem_of_getElem? (i := 36) rfl))) (mvT hZ (hw _ (List.mem_of_getElem? (i := 35) rfl))) (by decide) (backOf (W := 0) (rms8 l Z a0 hw [] u_LESS_flag u_LESS_flag_value cl_u_LESS_flag_value.cls cs fm h0 n0 Z0 E_u_LESS_flag F_u_LESS_flag_value F_u_LESS_flag_coder V_u_LESS_flag_value Sc Sf hcs hfm) hZ (hw _ (List.mem_of_getElem? (i := 37) rfl)) (hw _ (List.mem_of_getElem? (i := 28) rfl)) (by decide) (by decide)) q17a q17c (g := (mkF m 34 #[.val (.int p0_0), .val (.int (2 : Int32)), .val (.ref u_LESS), .val (.int (0 : Int32)), .val (.ref u_LESS_flag), .unset, .unset] [(.int (0 : Int32)), (.ref u_LESS_flag)])) rfl (by rw [hml]; rfl) (Steps.refl _) (argsL := [(.int (0 : Int32))]) (rest := []) (lenOf pd_6 rfl) rfl (by show 2 * 0 + _ ≤ _; exact Nat.le_of_eq rfl) (hb hby at_34) (fun _ _ => ⟨rfl, eh16, (by decide : 0 + 0 ≤ _), (by decide : 0 + 0 ≤ _)⟩)
    dsimp only [Pt.U, Pt.locs, Pt.cells, Pt.slots] at X17 l17 y17 z17 st17 hQ17
    subst l17 y17 z17
    obtain ⟨rfl, N17q, eh17⟩ := hQ17
    have N17 := Fr.app N16 N17q
    have k18 : ∀ t, Steps p.tables e below (T17.setTop (mkF m 94 #[.val (.int p0_0), .val (.int (2 : Int32)), .val (.ref u_LESS), .val (.int (0 : Int32)), .val (.ref u_LESS_flag), .val (.int (0 : Int32)), .val (.int (0 : Int32))] [(.int (1 : Int32))])) t → Steps p.tables e below (s₁.setTop (entryFrame m #[(.int p0_0)] maxLocals)) t := by
      intro t k
      refine k1 t ?_
      show Steps p.tables e below (s₁.setTop (mkF m 7 #[.val (.int p0_0), .val (.int (2 : Int32)), .unset, .unset, .unset, .unset, .unset] [])) _
      refine XS.iloadN X0.here hx rfl (hb hby at_7) rfl ?_
      show Steps p.tables e below (s₁.setTop (mkF m 8 #[.val (.int p0_0), .val (.int (2 : Int32)), .unset, .unset, .unset, .unset, .unset] [(.int (2 : Int32))])) _
      refine st13 _ ?_
      show Steps p.tables e below (T13.setTop (mkF m 11 #[.val (.int p0_0), .val (.int (2 : Int32)), .unset, .unset, .unset, .unset, .unset] [(.ref u_LESS)])) _
      refine XS.astoreN X13.here hx rfl (hb hby at_11) rfl rfl (l' := #[.val (.int p0_0), .val (.int (2 : Int32)), .val (.ref u_LESS), .unset, .unset, .unset, .unset]) rfl ?_
      show Steps p.tables e below (T13.setTop (mkF m 12 #[.val (.int p0_0), .val (.int (2 : Int32)), .val (.ref u_LESS), .unset, .unset, .unset, .unset] [])) _
      refine XS.aloadN X13.here hx rfl (hb hby at_12) rfl rfl ?_
      show Steps p.tables e below (T13.setTop (mkF m 13 #[.val (.int p0_0), .val (.int (2 : Int32)), .val (.ref u_LESS), .unset, .unset, .unset, .unset] [(.ref u_LESS)])) _
      refine st14.trans ?_
      show Steps p.tables e below (T14.setTop (mkF m 16 #[.val (.int p0_0), .val (.int (2 : Int32)), .val (.ref u_LESS), .unset, .unset, .unset, .unset] [(.int (0 : Int32))])) _
      refine XS.istoreN X14.here hx rfl (hb hby at_16) rfl (l' := #[.val (.int p0_0), .val (.int (2 : Int32)), .val (.ref u_LESS), .val (.int (0 : Int32)), .unset, .unset, .unset]) rfl ?_
      show Steps p.tables e below (T14.setTop (mkF m 17 #[.val (.int p0_0), .val (.int (2 : Int32)), .val (.ref u_LESS), .val (.int (0 : Int32)), .unset, .unset, .unset] [])) _
      refine XS.aloadN X14.here hx rfl (hb hby at_17) rfl rfl ?_
      show Steps p.tables e below (T14.setTop (mkF m 18 #[.val (.int p0_0), .val (.int (2 : Int32)), .val (.ref u_LESS), .val (.int (0 : Int32)), .unset, .unset, .unset] [(.ref u_LESS)])) _
      refine st15.trans ?_
      show Steps p.tables e below (T15.setTop (mkF m 21 #[.val (.int p0_0), .val (.int (2 : Int32)), .val (.ref u_LESS), .val (.int (0 : Int32)), .unset, .unset, .unset] [(.ref u_LESS_flag)])) _
      refine XS.astore X15.here hx rfl (hb hby at_21) rfl rfl (l' := #[.val (.int p0_0), .val (.int (2 : Int32)), .val (.ref u_LESS), .val (.int (0 : Int32)), .val (.ref u_LESS_flag), .unset, .unset]) rfl ?_
      show Steps p.tables e below (T15.setTop (mkF m 23 #[.val (.int p0_0), .val (.int (2 : Int32)), .val (.ref u_LESS), .val (.int (0 : Int32)), .val (.ref u_LESS_flag), .unset, .unset] [])) _
      refine XS.aload X15.here hx rfl (hb hby at_23) rfl rfl ?_
      show Steps p.tables e below (T15.setTop (mkF m 25 #[.val (.int p0_0), .val (.int (2 : Int32)), .val (.ref u_LESS), .val (.int (0 : Int32)), .val (.ref u_LESS_flag), .unset, .unset] [(.ref u_LESS_flag)])) _
      refine st16.trans ?_
      show Steps p.tables e below (T16.setTop (mkF m 28 #[.val (.int p0_0), .val (.int (2 : Int32)), .val (.ref u_LESS), .val (.int (0 : Int32)), .val (.ref u_LESS_flag), .unset, .unset] [(.int (0 : Int32))])) _
      refine XS.ifNo X16.here hx rfl (hb hby at_28) rfl ((if0 _ _).trans (teq (by decide : (0 : Int32) = (0 : Int32))).2) ?_
      show Steps p.tables e below (T16.setTop (mkF m 31 #[.val (.int p0_0), .val (.int (2 : Int32)), .val (.ref u_LESS), .val (.int (0 : Int32)), .val (.ref u_LESS_flag), .unset, .unset] [])) _
      refine XS.aload X16.here hx rfl (hb hby at_31) rfl rfl ?_
      show Steps p.tables e below (T16.setTop (mkF m 33 #[.val (.int p0_0), .val (.int (2 : Int32)), .val (.ref u_LESS), .val (.int (0 : Int32)), .val (.ref u_LESS_flag), .unset, .unset] [(.ref u_LESS_flag)])) _
      refine XS.iconst X16.here hx rfl (hb hby at_33) ?_
      show Steps p.tables e below (T16.setTop (mkF m 34 #[.val (.int p0_0), .val (.int (2 : Int32)), .val (.ref u_LESS), .val (.int (0 : Int32)), .val (.ref u_LESS_flag), .unset, .unset] [(.int (0 : Int32)), (.ref u_LESS_flag)])) _
      refine st17.trans ?_
      show Steps p.tables e below (T17.setTop (mkF m 37 #[.val (.int p0_0), .val (.int (2 : Int32)), .val (.ref u_LESS), .val (.int (0 : Int32)), .val (.ref u_LESS_flag), .unset, .unset] [(.int (60 : Int32))])) _
      refine XS.bipush X17.here hx rfl (hb hby at_37) ?_
      show Steps p.tables e below (T17.setTop (mkF m 39 #[.val (.int p0_0), .val (.int (2 : Int32)), .val (.ref u_LESS), .val (.int (0 : Int32)), .val (.ref u_LESS_flag), .unset, .unset] [(.int (62 : Int32)), (.int (60 : Int32))])) _
      refine XS.icmpYes X17.here hx rfl (pc0 := 39) (pc' := 46) rfl (hb hby at_39) rfl (feq (by decide : ¬ ((60 : Int32) = (62 : Int32)))).2 (by decide) (by decide) ?_
      show Steps p.tables e below (T17.setTop (mkF m 46 #[.val (.int p0_0), .val (.int (2 : Int32)), .val (.ref u_LESS), .val (.int (0 : Int32)), .val (.ref u_LESS_flag), .unset, .unset] [])) _
      refine XS.iconst X17.here hx rfl (hb hby at_46) ?_
      show Steps p.tables e below (T17.setTop (mkF m 47 #[.val (.int p0_0), .val (.int (2 : Int32)), .val (.ref u_LESS), .val (.int (0 : Int32)), .val (.ref u_LESS_flag), .unset, .unset] [(.int (0 : Int32))])) _
      refine XS.istore X17.here hx rfl (hb hby at_47) rfl (l' := #[.val (.int p0_0), .val (.int (2 : Int32)), .val (.ref u_LESS), .val (.int (0 : Int32)), .val (.ref u_LESS_flag), .val (.int (0 : Int32)), .unset]) rfl ?_
      show Steps p.tables e below (T17.setTop (mkF m 49 #[.val (.int p0_0), .val (.int (2 : Int32)), .val (.ref u_LESS), .val (.int (0 : Int32)), .val (.ref u_LESS_flag), .val (.int (0 : Int32)), .unset] [])) _
      refine XS.iloadN X17.here hx rfl (hb hby at_49) rfl ?_
      show Steps p.tables e below (T17.setTop (mkF m 50 #[.val (.int p0_0), .val (.int (2 : Int32)), .val (.ref u_LESS), .val (.int (0 : Int32)), .val (.ref u_LESS_flag), .val (.int (0 : Int32)), .unset] [(.int (2 : Int32))])) _
      refine XS.iconst X17.here hx rfl (hb hby at_50) ?_
      show Steps p.tables e below (T17.setTop (mkF m 51 #[.val (.int p0_0), .val (.int (2 : Int32)), .val (.ref u_LESS), .val (.int (0 : Int32)), .val (.ref u_LESS_flag), .val (.int (0 : Int32)), .unset] [(.int (3 : Int32)), (.int (2 : Int32))])) _
      refine XS.icmpNo X17.here hx rfl (hb hby at_51) rfl (feq (by decide : ¬ ((2 : Int32) = (3 : Int32)))).1 ?_
      show Steps p.tables e below (T17.setTop (mkF m 54 #[.val (.int p0_0), .val (.int (2 : Int32)), .val (.ref u_LESS), .val (.int (0 : Int32)), .val (.ref u_LESS_flag), .val (.int (0 : Int32)), .unset] [])) _
      refine XS.iloadN X17.here hx rfl (hb hby at_54) rfl ?_
      show Steps p.tables e below (T17.setTop (mkF m 55 #[.val (.int p0_0), .val (.int (2 : Int32)), .val (.ref u_LESS), .val (.int (0 : Int32)), .val (.ref u_LESS_flag), .val (.int (0 : Int32)), .unset] [(.int (2 : Int32))])) _
      refine XS.iconst X17.here hx rfl (hb hby at_55) ?_
      show Steps p.tables e below (T17.setTop (mkF m 56 #[.val (.int p0_0), .val (.int (2 : Int32)), .val (.ref u_LESS), .val (.int (0 : Int32)), .val (.ref u_LESS_flag), .val (.int (0 : Int32)), .unset] [(.int (4 : Int32)), (.int (2 : Int32))])) _
      refine XS.icmpYes X17.here hx rfl (pc0 := 56) (pc' := 63) rfl (hb hby at_56) rfl (feq (by decide : ¬ ((2 : Int32) = (4 : Int32)))).2 (by decide) (by decide) ?_
      show Steps p.tables e below (T17.setTop (mkF m 63 #[.val (.int p0_0), .val (.int (2 : Int32)), .val (.ref u_LESS), .val (.int (0 : Int32)), .val (.ref u_LESS_flag), .val (.int (0 : Int32)), .unset] [])) _
      refine XS.iconst X17.here hx rfl (hb hby at_63) ?_
      show Steps p.tables e below (T17.setTop (mkF m 64 #[.val (.int p0_0), .val (.int (2 : Int32)), .val (.ref u_LESS), .val (.int (0 : Int32)), .val (.ref u_LESS_flag), .val (.int (0 : Int32)), .unset] [(.int (0 : Int32))])) _
      refine XS.istore X17.here hx rfl (hb hby at_64) rfl (l' := #[.val (.int p0_0), .val (.int (2 : Int32)), .val (.ref u_LESS), .val (.int (0 : Int32)), .val (.ref u_LESS_flag), .val (.int (0 : Int32)), .val (.int (0 : Int32))]) rfl ?_
      show Steps p.tables e below (T17.setTop (mkF m 66 #[.val (.int p0_0), .val (.int (2 : Int32)), .val (.ref u_LESS), .val (.int (0 : Int32)), .val (.ref u_LESS_flag), .val (.int (0 : Int32)), .val (.int (0 : Int32))] [])) _
      refine XS.iloadN X17.here hx rfl (hb hby at_66) rfl ?_
      show Steps p.tables e below (T17.setTop (mkF m 67 #[.val (.int p0_0), .val (.int (2 : Int32)), .val (.ref u_LESS), .val (.int (0 : Int32)), .val (.ref u_LESS_flag), .val (.int (0 : Int32)), .val (.int (0 : Int32))] [(.int (0 : Int32))])) _
      refine XS.iload X17.here hx rfl (hb hby at_67) rfl ?_
      show Steps p.tables e below (T17.setTop (mkF m 69 #[.val (.int p0_0), .val (.int (2 : Int32)), .val (.ref u_LESS), .val (.int (0 : Int32)), .val (.ref u_LESS_flag), .val (.int (0 : Int32)), .val (.int (0 : Int32))] [(.int (0 : Int32)), (.int (0 : Int32))])) _
      refine XS.icmpNo X17.here hx rfl (hb hby at_69) rfl (teq (by decide : (0 : Int32) = (0 : Int32))).2 ?_
      show Steps p.tables e below (T17.setTop (mkF m 72 #[.val (.int p0_0), .val (.int (2 : Int32)), .val (.ref u_LESS), .val (.int (0 : Int32)), .val (.ref u_LESS_flag), .val (.int (0 : Int32)), .val (.int (0 : Int32))] [])) _
      refine XS.iloadN X17.here hx rfl (hb hby at_72) rfl ?_
      show Steps p.tables e below (T17.setTop (mkF m 73 #[.val (.int p0_0), .val (.int (2 : Int32)), .val (.ref u_LESS), .val (.int (0 : Int32)), .val (.ref u_LESS_flag), .val (.int (0 : Int32)), .val (.int (0 : Int32))] [(.int (0 : Int32))])) _
      refine XS.iload X17.here hx rfl (hb hby at_73) rfl ?_
      show Steps p.tables e below (T17.setTop (mkF m 75 #[.val (.int p0_0), .val (.int (2 : Int32)), .val (.ref u_LESS), .val (.int (0 : Int32)), .val (.ref u_LESS_flag), .val (.int (0 : Int32)), .val (.int (0 : Int32))] [(.int (0 : Int32)), (.int (0 : Int32))])) _
      refine XS.icmpNo X17.here hx rfl (hb hby at_75) rfl (teq (by decide : (0 : Int32) = (0 : Int32))).2 ?_
      show Steps p.tables e below (T17.setTop (mkF m 78 #[.val (.int p0_0), .val (.int (2 : Int32)), .val (.ref u_LESS), .val (.int (0 : Int32)), .val (.ref u_LESS_flag), .val (.int (0 : Int32)), .val (.int (0 : Int32))] [])) _
      refine XS.iloadN X17.here hx rfl (hb hby at_78) rfl ?_
      show Steps p.tables e below (T17.setTop (mkF m 79 #[.val (.int p0_0), .val (.int (2 : Int32)), .val (.ref u_LESS), .val (.int (0 : Int32)), .val (.ref u_LESS_flag), .val (.int (0 : Int32)), .val (.int (0 : Int32))] [(.int (0 : Int32))])) _
      refine XS.ifYes X17.here hx rfl (pc0 := 79) (pc' := 89) rfl (hb hby at_79) rfl ((if0 _ _).trans (teq (by decide : (0 : Int32) = (0 : Int32))).1) (by decide) (by decide) ?_
      show Steps p.tables e below (T17.setTop (mkF m 89 #[.val (.int p0_0), .val (.int (2 : Int32)), .val (.ref u_LESS), .val (.int (0 : Int32)), .val (.ref u_LESS_flag), .val (.int (0 : Int32)), .val (.int (0 : Int32))] [])) _
      refine XS.iconst X17.here hx rfl (hb hby at_89) ?_
      show Steps p.tables e below (T17.setTop (mkF m 90 #[.val (.int p0_0), .val (.int (2 : Int32)), .val (.ref u_LESS), .val (.int (0 : Int32)), .val (.ref u_LESS_flag), .val (.int (0 : Int32)), .val (.int (0 : Int32))] [(.int (1 : Int32))])) _
      refine XS.goto X17.here hx rfl (pc0 := 90) (pc' := 94) rfl (hb hby at_90) (by decide) (by decide) ?_
      exact k
    obtain ⟨fs, hr, hrun, hended, hW, hsame⟩ := X17.leave (v := some (.int (1 : Int32))) (fun h => by rw [Bd.returns] at h; cases h)
    refine ⟨_, _, k18 _ ?_, hrun, hended, _, _, rfl, ?_, ⟨_, rfl⟩, hW, hsame.mono (by decide) (by decide)⟩
    · exact retN X17 hx (t := .boolean) Bd.returns (by simp) (hb hby at_94) hr
    · show Q0 Z p0_0 u_INACTIVE u_GREATER u_GREATER_EQUAL u_INACTIVE_flag u_INACTIVE_flag_value cl_u_INACTIVE_flag_value u_GREATER_flag u_GREATER_flag_value cl_u_GREATER_flag_value u_ACTIVE u_GREATER_EQUAL_flag u_GREATER_EQUAL_flag_value cl_u_GREATER_EQUAL_flag_value u_LESS u_LESS_flag u_LESS_flag_value cl_u_LESS_flag_value cs fm h0 n0 _ T17.heap _
      rw [eh17]
      exact ⟨rfl, N17⟩
  · skip
    obtain ⟨_, _, ⟨T19, L19, k19, n19⟩, -, X19, ⟨Lc19, hQ19, l19, y19, z19⟩, st19⟩ := Jvm.LawKit.callS X0 hx (y := (⟨"com/example/chop/chop/compiler/MarkIsWaitingPinLaw", "pick", "(I)Lcom/example/chop/chop/compiler/Mark;"⟩ : MethodName)) hown (mvT hZ (hw _ (List.mem_of_getElem? (i := 1) rfl))) (mvT hZ (hw _ (List.mem_of_getElem? (i := 2) rfl))) (mvT hZ (hw _ (List.mem_of_getElem? (i := 3) rfl))) (mvT hZ (hw _ (List.mem_of_getElem? (i := 4) rfl))) (by decide) (backOf (W := 0) (rm11 l Z a0 hw [] u_GREATER h0 n0 Z0 S_GREATER) hZ (hw _ (List.mem_of_getElem? (i := 4) rfl)) (hw _ (List.mem_of_getElem? (i := 3) rfl)) (by decide) (by decide)) (g := (mkF m 8 #[.val (.int p0_0), .val (.int (3 : Int32)), .unset, .unset, .unset, .unset, .unset] [(.int (3 : Int32))])) rfl (by rw [hml]; rfl) (argsL := [(.int (3 : Int32))]) (rest := []) (lenOf pd_0 rfl) rfl (by show 2 * 0 + _ ≤ _; exact Nat.le_of_eq rfl) (hb hby at_8) (fun _ _ => ⟨rfl, e0, (by decide : 0 + 0 ≤ _), (by decide : 0 + 0 ≤ _)⟩)
    dsimp only [Pt.U, Pt.locs, Pt.cells, Pt.slots] at X19 l19 y19 z19 st19 hQ19
    subst l19 y19 z19
    obtain ⟨rfl, N19q, eh19⟩ := hQ19
    have N19 := Fr.app N0 N19q
    obtain ⟨cq20, kq20, q20a, q20b, q20c⟩ := isOf hZ eh19 E_u_GREATER
    obtain ⟨_, _, ⟨T20, L20, k20, n20⟩, -, X20, ⟨Lc20, hQ20, l20, y20, z20⟩, st20⟩ := X19.virtualBack hx (y := (⟨"com/example/chop/chop/compiler/Mark", "isWaiting", "()Z"⟩ : MethodName)) (z := (⟨"com/example/chop/chop/compiler/Mark", "isWaiting", "()Z"⟩ : MethodName)) hown (mvT hZ (hw _ (List.mem_of_getElem? (i := 8) rfl))) (mvT hZ (hw _ (List.mem_of_getElem? (i := 9) rfl))) (notFace_of_selects (args := #[]) (mvT hZ (hw _ (List.mem_of_getElem? (i := 11) rfl)))) (mvT hZ (hw _ (List.mem_of_getElem? (i := 11) rfl))) (mvT hZ (hw _ (List.mem_of_getElem? (i := 10) rfl))) (by decide) (backOf (W := 0) (rm12 l Z a0 hw [] u_GREATER h0 n0 Z0 S_GREATER) hZ (hw _ (List.mem_of_getElem? (i := 12) rfl)) (hw _ (List.mem_of_getElem? (i := 6) rfl)) (by decide) (by decide)) q20a q20c (g := (mkF m 13 #[.val (.int p0_0), .val (.int (3 : Int32)), .val (.ref u_GREATER), .unset, .unset, .unset, .unset] [(.ref u_GREATER)])) rfl (by rw [hml]; rfl) (Steps.refl _) (argsL := []) (rest := []) (lenOf pd_1 rfl) rfl (by show 2 * 0 + _ ≤ _; exact Nat.le_of_eq rfl) (hb hby at_13) (fun _ _ => ⟨rfl, eh19, (by decide : 0 + 0 ≤ _), (by decide : 0 + 0 ≤ _)⟩)
    dsimp only [Pt.U, Pt.locs, Pt.cells, Pt.slots] at X20 l20 y20 z20 st20 hQ20
    subst l20 y20 z20
    obtain ⟨rfl, N20q, eh20⟩ := hQ20
    have N20 := Fr.app N19 N20q
    obtain ⟨cq21, kq21, q21a, q21b, q21c⟩ := isOf hZ eh20 E_u_GREATER
    obtain ⟨_, _, ⟨T21, L21, k21, n21⟩, -, X21, ⟨Lc21, hQ21, l21, y21, z21⟩, st21⟩ := X20.virtualBack hx (y := (⟨"com/example/chop/chop/compiler/Mark", "flag", "()Ljava/lang/String;"⟩ : MethodName)) (z := (⟨"com/example/chop/chop/compiler/Mark", "flag", "()Ljava/lang/String;"⟩ : MethodName)) hown (mvT hZ (hw _ (List.mem_of_getElem? (i := 17) rfl))) (mvT hZ (hw _ (List.mem_of_getElem? (i := 18) rfl))) (notFace_of_selects (args := #[]) (mvT hZ (hw _ (List.mem_of_getElem? (i := 20) rfl)))) (mvT hZ (hw _ (List.mem_of_getElem? (i := 20) rfl))) (mvT hZ (hw _ (List.mem_of_getElem? (i := 19) rfl))) (by decide) (backOf (W := 0) (rm1 l Z a0 hw [] u_GREATER u_GREATER_flag h0 n0 Z0 F_u_GREATER_flag) hZ (hw _ (List.mem_of_getElem? (i := 21) rfl)) (hw _ (List.mem_of_getElem? (i := 6) rfl)) (by decide) (by decide)) q21a q21c (g := (mkF m 18 #[.val (.int p0_0), .val (.int (3 : Int32)), .val (.ref u_GREATER), .val (.int (1 : Int32)), .unset, .unset, .unset] [(.ref u_GREATER)])) rfl (by rw [hml]; rfl) (Steps.refl _) (argsL := []) (rest := []) (lenOf pd_2 rfl) rfl (by show 2 * 0 + _ ≤ _; exact Nat.le_of_eq rfl) (hb hby at_18) (fun _ _ => ⟨rfl, eh20, (by decide : 0 + 0 ≤ _), (by decide : 0 + 0 ≤ _)⟩)
    dsimp only [Pt.U, Pt.locs, Pt.cells, Pt.slots] at X21 l21 y21 z21 st21 hQ21
    subst l21 y21 z21
    obtain ⟨rfl, N21q, eh21⟩ := hQ21
    have N21 := Fr.app N20 N21q
    obtain ⟨cq22, kq22, q22a, q22b, q22c⟩ := isOf hZ eh21 E_u_GREATER_flag
    obtain ⟨_, _, ⟨T22, L22, k22, n22⟩, -, X22, ⟨Lc22, hQ22, l22, y22, z22⟩, st22⟩ := X21.virtualBack hx (y := (⟨"java/lang/String", "isEmpty", "()Z"⟩ : MethodName)) (z := (⟨"java/lang/String", "isEmpty", "()Z"⟩ : MethodName)) hown (mvT hZ (hw _ (List.mem_of_getElem? (i := 24) rfl))) (mvT hZ (hw _ (List.mem_of_getElem? (i := 25) rfl))) (notFace_of_selects (args := #[]) (mvT hZ (hw _ (List.mem_of_getElem? (i := 27) rfl)))) (mvT hZ (hw _ (List.mem_of_getElem? (i := 27) rfl))) (mvT hZ (hw _ (List.mem_of_getElem? (i := 26) rfl))) (by decide) (backOf (W := 0) (rms9 l Z a0 hw [] u_GREATER_flag u_GREATER_flag_value cl_u_GREATER_flag_value.cls h0 n0 Z0 F_u_GREATER_flag_value V_u_GREATER_flag_value) hZ (hw _ (List.mem_of_getElem? (i := 29) rfl)) (hw _ (List.mem_of_getElem? (i := 28) rfl)) (by decide) (by decide)) q22a q22c (g := (mkF m 25 #[.val (.int p0_0), .val (.int (3 : Int32)), .val (.ref u_GREATER), .val (.int (1 : Int32)), .val (.ref u_GREATER_flag), .unset, .unset] [(.ref u_GREATER_flag)])) rfl (by rw [hml]; rfl) (Steps.refl _) (argsL := []) (rest := []) (lenOf pd_1 rfl) rfl (by show 2 * 0 + _ ≤ _; exact Nat.le_of_eq rfl) (hb hby at_25) (fun _ _ => ⟨rfl, eh21, (by decide : 0 + 0 ≤ _), (by decide : 0 + 0 ≤ _)⟩)
    dsimp only [Pt.U, Pt.locs, Pt.cells, Pt.slots] at X22 l22 y22 z22 st22 hQ22
    subst l22 y22 z22
    obtain ⟨rfl, N22q, eh22⟩ := hQ22
    have N22 := Fr.app N21 N22q
    obtain ⟨cq23, kq23, q23a, q23b, q23c⟩ := isOf hZ eh22 E_u_GREATER_flag
    obtain ⟨_, _, ⟨T23, L23, k23, n23⟩, -, X23, ⟨Lc23, hQ23, l23, y23, z23⟩, st23⟩ := X22.virtualBack hx (y := (⟨"java/lang/String", "charAt", "(I)C"⟩ : MethodName)) (z := (⟨"java/lang/String", "charAt", "(I)C"⟩ : MethodName)) hown (mvT hZ (hw _ (List.mem_of_getElem? (i := 33) rfl))) (mvT hZ (hw _ (List.mem_of_getElem? (i := 34) rfl))) (notFace_of_selects (args := #[]) (mvT hZ (hw _ (List.mem_of_getElem? (i := 36) rfl)))) (mvT hZ (hw _ (List.mem_of_getElem? (i := 36) rfl))) (mvT hZ (hw _ (List.mem_of_getElem? (i := 35) rfl))) (by decide) (backOf (W := 0) (rms11 l Z a0 hw [] u_GREATER_flag u_GREATER_flag_value cl_u_GREATER_flag_value.cls cs fm h0 n0 Z0 E_u_GREATER_flag F_u_GREATER_flag_value F_u_GREATER_flag_coder V_u_GREATER_flag_value Sc Sf hcs hfm) hZ (hw _ (List.mem_of_getElem? (i := 37) rfl)) (hw _ (List.mem_of_getElem? (i := 28) rfl)) (by decide) (by decide)) q23a q23c (g := (mkF m 34 #[.val (.int p0_0), .val (.int (3 : Int32)), .val (.ref u_GREATER), .val (.int (1 : Int32)), .val (.ref u_GREATER_flag), .unset, .unset] [(.int (0 : Int32)), (.ref u_GREATER_flag)])) rfl (by rw [hml]; rfl) (Steps.refl _) (argsL := [(.int (0 : Int32))]) (rest := []) (lenOf pd_6 rfl) rfl (by show 2 * 0 + _ ≤ _; exact Nat.le_of_eq rfl) (hb hby at_34) (fun _ _ => ⟨rfl, eh22, (by decide : 0 + 0 ≤ _), (by decide : 0 + 0 ≤ _)⟩)
    dsimp only [Pt.U, Pt.locs, Pt.cells, Pt.slots] at X23 l23 y23 z23 st23 hQ23
    subst l23 y23 z23
    obtain ⟨rfl, N23q, eh23⟩ := hQ23
    have N23 := Fr.app N22 N23q
    obtain ⟨cq24, kq24, q24a, q24b, q24c⟩ := isOf hZ eh23 E_u_GREATER
    obtain ⟨_, _, ⟨T24, L24, k24, n24⟩, -, X24, ⟨Lc24, hQ24, l24, y24, z24⟩, st24⟩ := X23.virtualBack hx (y := (⟨"com/example/chop/chop/compiler/Mark", "isActive", "()Z"⟩ : MethodName)) (z := (⟨"com/example/chop/chop/compiler/Mark", "isActive", "()Z"⟩ : MethodName)) hown (mvT hZ (hw _ (List.mem_of_getElem? (i := 58) rfl))) (mvT hZ (hw _ (List.mem_of_getElem? (i := 59) rfl))) (notFace_of_selects (args := #[]) (mvT hZ (hw _ (List.mem_of_getElem? (i := 61) rfl)))) (mvT hZ (hw _ (List.mem_of_getElem? (i := 61) rfl))) (mvT hZ (hw _ (List.mem_of_getElem? (i := 60) rfl))) (by decide) (backOf (W := 0) (rm13 l Z a0 hw [] u_GREATER u_INACTIVE h0 n0 Z0 S_INACTIVE (Ne.symm ne_INACTIVE_GREATER)) hZ (hw _ (List.mem_of_getElem? (i := 62) rfl)) (hw _ (List.mem_of_getElem? (i := 6) rfl)) (by decide) (by decide)) q24a q24c (g := (mkF m 83 #[.val (.int p0_0), .val (.int (3 : Int32)), .val (.ref u_GREATER), .val (.int (1 : Int32)), .val (.ref u_GREATER_flag), .val (.int (1 : Int32)), .val (.int (1 : Int32))] [(.ref u_GREATER)])) rfl (by rw [hml]; rfl) (Steps.refl _) (argsL := []) (rest := []) (lenOf pd_1 rfl) rfl (by show 2 * 0 + _ ≤ _; exact Nat.le_of_eq rfl) (hb hby at_83) (fun _ _ => ⟨rfl, eh23, (by decide : 0 + 0 ≤ _), (by decide : 0 + 0 ≤ _)⟩)
    dsimp only [Pt.U, Pt.locs, Pt.cells, Pt.slots] at X24 l24 y24 z24 st24 hQ24
    subst l24 y24 z24
    obtain ⟨rfl, N24q, eh24⟩ := hQ24
    have N24 := Fr.app N23 N24q
    have k25 : ∀ t, Steps p.tables e below (T24.setTop (mkF m 94 #[.val (.int p0_0), .val (.int (3 : Int32)), .val (.ref u_GREATER), .val (.int (1 : Int32)), .val (.ref u_GREATER_flag), .val (.int (1 : Int32)), .val (.int (1 : Int32))] [(.int (1 : Int32))])) t → Steps p.tables e below (s₁.setTop (entryFrame m #[(.int p0_0)] maxLocals)) t := by
      intro t k
      refine k1 t ?_
      show Steps p.tables e below (s₁.setTop (mkF m 7 #[.val (.int p0_0), .val (.int (3 : Int32)), .unset, .unset, .unset, .unset, .unset] [])) _
      refine XS.iloadN X0.here hx rfl (hb hby at_7) rfl ?_
      show Steps p.tables e below (s₁.setTop (mkF m 8 #[.val (.int p0_0), .val (.int (3 : Int32)), .unset, .unset, .unset, .unset, .unset] [(.int (3 : Int32))])) _
      refine st19 _ ?_
      show Steps p.tables e below (T19.setTop (mkF m 11 #[.val (.int p0_0), .val (.int (3 : Int32)), .unset, .unset, .unset, .unset, .unset] [(.ref u_GREATER)])) _
      refine XS.astoreN X19.here hx rfl (hb hby at_11) rfl rfl (l' := #[.val (.int p0_0), .val (.int (3 : Int32)), .val (.ref u_GREATER), .unset, .unset, .unset, .unset]) rfl ?_
      show Steps p.tables e below (T19.setTop (mkF m 12 #[.val (.int p0_0), .val (.int (3 : Int32)), .val (.ref u_GREATER), .unset, .unset, .unset, .unset] [])) _
      refine XS.aloadN X19.here hx rfl (hb hby at_12) rfl rfl ?_
      show Steps p.tables e below (T19.setTop (mkF m 13 #[.val (.int p0_0), .val (.int (3 : Int32)), .val (.ref u_GREATER), .unset, .unset, .unset, .unset] [(.ref u_GREATER)])) _
      refine st20.trans ?_
      show Steps p.tables e below (T20.setTop (mkF m 16 #[.val (.int p0_0), .val (.int (3 : Int32)), .val (.ref u_GREATER), .unset, .unset, .unset, .unset] [(.int (1 : Int32))])) _
      refine XS.istoreN X20.here hx rfl (hb hby at_16) rfl (l' := #[.val (.int p0_0), .val (.int (3 : Int32)), .val (.ref u_GREATER), .val (.int (1 : Int32)), .unset, .unset, .unset]) rfl ?_
      show Steps p.tables e below (T20.setTop (mkF m 17 #[.val (.int p0_0), .val (.int (3 : Int32)), .val (.ref u_GREATER), .val (.int (1 : Int32)), .unset, .unset, .unset] [])) _
      refine XS.aloadN X20.here hx rfl (hb hby at_17) rfl rfl ?_
      show Steps p.tables e below (T20.setTop (mkF m 18 #[.val (.int p0_0), .val (.int (3 : Int32)), .val (.ref u_GREATER), .val (.int (1 : Int32)), .unset, .unset, .unset] [(.ref u_GREATER)])) _
      refine st21.trans ?_
      show Steps p.tables e below (T21.setTop (mkF m 21 #[.val (.int p0_0), .val (.int (3 : Int32)), .val (.ref u_GREATER), .val (.int (1 : Int32)), .unset, .unset, .unset] [(.ref u_GREATER_flag)])) _
      refine XS.astore X21.here hx rfl (hb hby at_21) rfl rfl (l' := #[.val (.int p0_0), .val (.int (3 : Int32)), .val (.ref u_GREATER), .val (.int (1 : Int32)), .val (.ref u_GREATER_flag), .unset, .unset]) rfl ?_
      show Steps p.tables e below (T21.setTop (mkF m 23 #[.val (.int p0_0), .val (.int (3 : Int32)), .val (.ref u_GREATER), .val (.int (1 : Int32)), .val (.ref u_GREATER_flag), .unset, .unset] [])) _
      refine XS.aload X21.here hx rfl (hb hby at_23) rfl rfl ?_
      show Steps p.tables e below (T21.setTop (mkF m 25 #[.val (.int p0_0), .val (.int (3 : Int32)), .val (.ref u_GREATER), .val (.int (1 : Int32)), .val (.ref u_GREATER_flag), .unset, .unset] [(.ref u_GREATER_flag)])) _
      refine st22.trans ?_
      show Steps p.tables e below (T22.setTop (mkF m 28 #[.val (.int p0_0), .val (.int (3 : Int32)), .val (.ref u_GREATER), .val (.int (1 : Int32)), .val (.ref u_GREATER_flag), .unset, .unset] [(.int (0 : Int32))])) _
      refine XS.ifNo X22.here hx rfl (hb hby at_28) rfl ((if0 _ _).trans (teq (by decide : (0 : Int32) = (0 : Int32))).2) ?_
      show Steps p.tables e below (T22.setTop (mkF m 31 #[.val (.int p0_0), .val (.int (3 : Int32)), .val (.ref u_GREATER), .val (.int (1 : Int32)), .val (.ref u_GREATER_flag), .unset, .unset] [])) _
      refine XS.aload X22.here hx rfl (hb hby at_31) rfl rfl ?_
      show Steps p.tables e below (T22.setTop (mkF m 33 #[.val (.int p0_0), .val (.int (3 : Int32)), .val (.ref u_GREATER), .val (.int (1 : Int32)), .val (.ref u_GREATER_flag), .unset, .unset] [(.ref u_GREATER_flag)])) _
      refine XS.iconst X22.here hx rfl (hb hby at_33) ?_
      show Steps p.tables e below (T22.setTop (mkF m 34 #[.val (.int p0_0), .val (.int (3 : Int32)), .val (.ref u_GREATER), .val (.int (1 : Int32)), .val (.ref u_GREATER_flag), .unset, .unset] [(.int (0 : Int32)), (.ref u_GREATER_flag)])) _
      refine st23.trans ?_
      show Steps p.tables e below (T23.setTop (mkF m 37 #[.val (.int p0_0), .val (.int (3 : Int32)), .val (.ref u_GREATER), .val (.int (1 : Int32)), .val (.ref u_GREATER_flag), .unset, .unset] [(.int (62 : Int32))])) _
      refine XS.bipush X23.here hx rfl (hb hby at_37) ?_
      show Steps p.tables e below (T23.setTop (mkF m 39 #[.val (.int p0_0), .val (.int (3 : Int32)), .val (.ref u_GREATER), .val (.int (1 : Int32)), .val (.ref u_GREATER_flag), .unset, .unset] [(.int (62 : Int32)), (.int (62 : Int32))])) _
      refine XS.icmpNo X23.here hx rfl (hb hby at_39) rfl (teq (by decide : (62 : Int32) = (62 : Int32))).2 ?_
      show Steps p.tables e below (T23.setTop (mkF m 42 #[.val (.int p0_0), .val (.int (3 : Int32)), .val (.ref u_GREATER), .val (.int (1 : Int32)), .val (.ref u_GREATER_flag), .unset, .unset] [])) _
      refine XS.iconst X23.here hx rfl (hb hby at_42) ?_
      show Steps p.tables e below (T23.setTop (mkF m 43 #[.val (.int p0_0), .val (.int (3 : Int32)), .val (.ref u_GREATER), .val (.int (1 : Int32)), .val (.ref u_GREATER_flag), .unset, .unset] [(.int (1 : Int32))])) _
      refine XS.goto X23.here hx rfl (pc0 := 43) (pc' := 47) rfl (hb hby at_43) (by decide) (by decide) ?_
      show Steps p.tables e below (T23.setTop (mkF m 47 #[.val (.int p0_0), .val (.int (3 : Int32)), .val (.ref u_GREATER), .val (.int (1 : Int32)), .val (.ref u_GREATER_flag), .unset, .unset] [(.int (1 : Int32))])) _
      refine XS.istore X23.here hx rfl (hb hby at_47) rfl (l' := #[.val (.int p0_0), .val (.int (3 : Int32)), .val (.ref u_GREATER), .val (.int (1 : Int32)), .val (.ref u_GREATER_flag), .val (.int (1 : Int32)), .unset]) rfl ?_
      show Steps p.tables e below (T23.setTop (mkF m 49 #[.val (.int p0_0), .val (.int (3 : Int32)), .val (.ref u_GREATER), .val (.int (1 : Int32)), .val (.ref u_GREATER_flag), .val (.int (1 : Int32)), .unset] [])) _
      refine XS.iloadN X23.here hx rfl (hb hby at_49) rfl ?_
      show Steps p.tables e below (T23.setTop (mkF m 50 #[.val (.int p0_0), .val (.int (3 : Int32)), .val (.ref u_GREATER), .val (.int (1 : Int32)), .val (.ref u_GREATER_flag), .val (.int (1 : Int32)), .unset] [(.int (3 : Int32))])) _
      refine XS.iconst X23.here hx rfl (hb hby at_50) ?_
      show Steps p.tables e below (T23.setTop (mkF m 51 #[.val (.int p0_0), .val (.int (3 : Int32)), .val (.ref u_GREATER), .val (.int (1 : Int32)), .val (.ref u_GREATER_flag), .val (.int (1 : Int32)), .unset] [(.int (3 : Int32)), (.int (3 : Int32))])) _
      refine XS.icmpYes X23.here hx rfl (pc0 := 51) (pc' := 59) rfl (hb hby at_51) rfl (teq (by decide : (3 : Int32) = (3 : Int32))).1 (by decide) (by decide) ?_
      show Steps p.tables e below (T23.setTop (mkF m 59 #[.val (.int p0_0), .val (.int (3 : Int32)), .val (.ref u_GREATER), .val (.int (1 : Int32)), .val (.ref u_GREATER_flag), .val (.int (1 : Int32)), .unset] [])) _
      refine XS.iconst X23.here hx rfl (hb hby at_59) ?_
      show Steps p.tables e below (T23.setTop (mkF m 60 #[.val (.int p0_0), .val (.int (3 : Int32)), .val (.ref u_GREATER), .val (.int (1 : Int32)), .val (.ref u_GREATER_flag), .val (.int (1 : Int32)), .unset] [(.int (1 : Int32))])) _
      refine XS.goto X23.here hx rfl (pc0 := 60) (pc' := 64) rfl (hb hby at_60) (by decide) (by decide) ?_
      show Steps p.tables e below (T23.setTop (mkF m 64 #[.val (.int p0_0), .val (.int (3 : Int32)), .val (.ref u_GREATER), .val (.int (1 : Int32)), .val (.ref u_GREATER_flag), .val (.int (1 : Int32)), .unset] [(.int (1 : Int32))])) _
      refine XS.istore X23.here hx rfl (hb hby at_64) rfl (l' := #[.val (.int p0_0), .val (.int (3 : Int32)), .val (.ref u_GREATER), .val (.int (1 : Int32)), .val (.ref u_GREATER_flag), .val (.int (1 : Int32)), .val (.int (1 : Int32))]) rfl ?_
      show Steps p.tables e below (T23.setTop (mkF m 66 #[.val (.int p0_0), .val (.int (3 : Int32)), .val (.ref u_GREATER), .val (.int (1 : Int32)), .val (.ref u_GREATER_flag), .val (.int (1 : Int32)), .val (.int (1 : Int32))] [])) _
      refine XS.iloadN X23.here hx rfl (hb hby at_66) rfl ?_
      show Steps p.tables e below (T23.setTop (mkF m 67 #[.val (.int p0_0), .val (.int (3 : Int32)), .val (.ref u_GREATER), .val (.int (1 : Int32)), .val (.ref u_GREATER_flag), .val (.int (1 : Int32)), .val (.int (1 : Int32))] [(.int (1 : Int32))])) _
      refine XS.iload X23.here hx rfl (hb hby at_67) rfl ?_
      show Steps p.tables e below (T23.setTop (mkF m 69 #[.val (.int p0_0), .val (.int (3 : Int32)), .val (.ref u_GREATER), .val (.int (1 : Int32)), .val (.ref u_GREATER_flag), .val (.int (1 : Int32)), .val (.int (1 : Int32))] [(.int (1 : Int32)), (.int (1 : Int32))])) _
      refine XS.icmpNo X23.here hx rfl (hb hby at_69) rfl (teq (by decide : (1 : Int32) = (1 : Int32))).2 ?_
      show Steps p.tables e below (T23.setTop (mkF m 72 #[.val (.int p0_0), .val (.int (3 : Int32)), .val (.ref u_GREATER), .val (.int (1 : Int32)), .val (.ref u_GREATER_flag), .val (.int (1 : Int32)), .val (.int (1 : Int32))] [])) _
      refine XS.iloadN X23.here hx rfl (hb hby at_72) rfl ?_
      show Steps p.tables e below (T23.setTop (mkF m 73 #[.val (.int p0_0), .val (.int (3 : Int32)), .val (.ref u_GREATER), .val (.int (1 : Int32)), .val (.ref u_GREATER_flag), .val (.int (1 : Int32)), .val (.int (1 : Int32))] [(.int (1 : Int32))])) _
      refine XS.iload X23.here hx rfl (hb hby at_73) rfl ?_
      show Steps p.tables e below (T23.setTop (mkF m 75 #[.val (.int p0_0), .val (.int (3 : Int32)), .val (.ref u_GREATER), .val (.int (1 : Int32)), .val (.ref u_GREATER_flag), .val (.int (1 : Int32)), .val (.int (1 : Int32))] [(.int (1 : Int32)), (.int (1 : Int32))])) _
      refine XS.icmpNo X23.here hx rfl (hb hby at_75) rfl (teq (by decide : (1 : Int32) = (1 : Int32))).2 ?_
      show Steps p.tables e below (T23.setTop (mkF m 78 #[.val (.int p0_0), .val (.int (3 : Int32)), .val (.ref u_GREATER), .val (.int (1 : Int32)), .val (.ref u_GREATER_flag), .val (.int (1 : Int32)), .val (.int (1 : Int32))] [])) _
      refine XS.iloadN X23.here hx rfl (hb hby at_78) rfl ?_
      show Steps p.tables e below (T23.setTop (mkF m 79 #[.val (.int p0_0), .val (.int (3 : Int32)), .val (.ref u_GREATER), .val (.int (1 : Int32)), .val (.ref u_GREATER_flag), .val (.int (1 : Int32)), .val (.int (1 : Int32))] [(.int (1 : Int32))])) _
      refine XS.ifNo X23.here hx rfl (hb hby at_79) rfl ((if0 _ _).trans (feq (by decide : ¬ ((1 : Int32) = (0 : Int32)))).1) ?_
      show Steps p.tables e below (T23.setTop (mkF m 82 #[.val (.int p0_0), .val (.int (3 : Int32)), .val (.ref u_GREATER), .val (.int (1 : Int32)), .val (.ref u_GREATER_flag), .val (.int (1 : Int32)), .val (.int (1 : Int32))] [])) _
      refine XS.aloadN X23.here hx rfl (hb hby at_82) rfl rfl ?_
      show Steps p.tables e below (T23.setTop (mkF m 83 #[.val (.int p0_0), .val (.int (3 : Int32)), .val (.ref u_GREATER), .val (.int (1 : Int32)), .val (.ref u_GREATER_flag), .val (.int (1 : Int32)), .val (.int (1 : Int32))] [(.ref u_GREATER)])) _
      refine st24.trans ?_
      show Steps p.tables e below (T24.setTop (mkF m 86 #[.val (.int p0_0), .val (.int (3 : Int32)), .val (.ref u_GREATER), .val (.int (1 : Int32)), .val (.ref u_GREATER_flag), .val (.int (1 : Int32)), .val (.int (1 : Int32))] [(.int (1 : Int32))])) _
      refine XS.ifNo X24.here hx rfl (hb hby at_86) rfl ((if0 _ _).trans (feq (by decide : ¬ ((1 : Int32) = (0 : Int32)))).1) ?_
      show Steps p.tables e below (T24.setTop (mkF m 89 #[.val (.int p0_0), .val (.int (3 : Int32)), .val (.ref u_GREATER), .val (.int (1 : Int32)), .val (.ref u_GREATER_flag), .val (.int (1 : Int32)), .val (.int (1 : Int32))] [])) _
      refine XS.iconst X24.here hx rfl (hb hby at_89) ?_
      show Steps p.tables e below (T24.setTop (mkF m 90 #[.val (.int p0_0), .val (.int (3 : Int32)), .val (.ref u_GREATER), .val (.int (1 : Int32)), .val (.ref u_GREATER_flag), .val (.int (1 : Int32)), .val (.int (1 : Int32))] [(.int (1 : Int32))])) _
      refine XS.goto X24.here hx rfl (pc0 := 90) (pc' := 94) rfl (hb hby at_90) (by decide) (by decide) ?_
      exact k
    obtain ⟨fs, hr, hrun, hended, hW, hsame⟩ := X24.leave (v := some (.int (1 : Int32))) (fun h => by rw [Bd.returns] at h; cases h)
    refine ⟨_, _, k25 _ ?_, hrun, hended, _, _, rfl, ?_, ⟨_, rfl⟩, hW, hsame.mono (by decide) (by decide)⟩
    · exact retN X24 hx (t := .boolean) Bd.returns (by simp) (hb hby at_94) hr
    · show Q0 Z p0_0 u_INACTIVE u_GREATER u_GREATER_EQUAL u_INACTIVE_flag u_INACTIVE_flag_value cl_u_INACTIVE_flag_value u_GREATER_flag u_GREATER_flag_value cl_u_GREATER_flag_value u_ACTIVE u_GREATER_EQUAL_flag u_GREATER_EQUAL_flag_value cl_u_GREATER_EQUAL_flag_value u_LESS u_LESS_flag u_LESS_flag_value cl_u_LESS_flag_value cs fm h0 n0 _ T24.heap _
      rw [eh24]
      exact ⟨rfl, N24⟩
  · skip
    obtain ⟨_, _, ⟨T26, L26, k26, n26⟩, -, X26, ⟨Lc26, hQ26, l26, y26, z26⟩, st26⟩ := Jvm.LawKit.callS X0 hx (y := (⟨"com/example/chop/chop/compiler/MarkIsWaitingPinLaw", "pick", "(I)Lcom/example/chop/chop/compiler/Mark;"⟩ : MethodName)) hown (mvT hZ (hw _ (List.mem_of_getElem? (i := 1) rfl))) (mvT hZ (hw _ (List.mem_of_getElem? (i := 2) rfl))) (mvT hZ (hw _ (List.mem_of_getElem? (i := 3) rfl))) (mvT hZ (hw _ (List.mem_of_getElem? (i := 4) rfl))) (by decide) (backOf (W := 0) (rm14 l Z a0 hw [] u_GREATER_EQUAL h0 n0 Z0 S_GREATER_EQUAL) hZ (hw _ (List.mem_of_getElem? (i := 4) rfl)) (hw _ (List.mem_of_getElem? (i := 3) rfl)) (by decide) (by decide)) (g := (mkF m 8 #[.val (.int p0_0), .val (.int (4 : Int32)), .unset, .unset, .unset, .unset, .unset] [(.int (4 : Int32))])) rfl (by rw [hml]; rfl) (argsL := [(.int (4 : Int32))]) (rest := []) (lenOf pd_0 rfl) rfl (by show 2 * 0 + _ ≤ _; exact Nat.le_of_eq rfl) (hb hby at_8) (fun _ _ => ⟨rfl, e0, (by decide : 0 + 0 ≤ _), (by decide : 0 + 0 ≤ _)⟩)
    dsimp only [Pt.U, Pt.locs, Pt.cells, Pt.slots] at X26 l26 y26 z26 st26 hQ26
    subst l26 y26 z26
    obtain ⟨rfl, N26q, eh26⟩ := hQ26
    have N26 := Fr.app N0 N26q
    obtain ⟨cq27, kq27, q27a, q27b, q27c⟩ := isOf hZ eh26 E_u_GREATER_EQUAL
    obtain ⟨_, _, ⟨T27, L27, k27, n27⟩, -, X27, ⟨Lc27, hQ27, l27, y27, z27⟩, st27⟩ := X26.virtualBack hx (y := (⟨"com/example/chop/chop/compiler/Mark", "isWaiting", "()Z"⟩ : MethodName)) (z := (⟨"com/example/chop/chop/compiler/Mark", "isWaiting", "()Z"⟩ : MethodName)) hown (mvT hZ (hw _ (List.mem_of_getElem? (i := 8) rfl))) (mvT hZ (hw _ (List.mem_of_getElem? (i := 9) rfl))) (notFace_of_selects (args := #[]) (mvT hZ (hw _ (List.mem_of_getElem? (i := 11) rfl)))) (mvT hZ (hw _ (List.mem_of_getElem? (i := 11) rfl))) (mvT hZ (hw _ (List.mem_of_getElem? (i := 10) rfl))) (by decide) (backOf (W := 0) (rm15 l Z a0 hw [] u_GREATER_EQUAL u_GREATER h0 n0 Z0 S_GREATER S_GREATER_EQUAL (Ne.symm ne_GREATER_GREATER_EQUAL)) hZ (hw _ (List.mem_of_getElem? (i := 12) rfl)) (hw _ (List.mem_of_getElem? (i := 6) rfl)) (by decide) (by decide)) q27a q27c (g := (mkF m 13 #[.val (.int p0_0), .val (.int (4 : Int32)), .val (.ref u_GREATER_EQUAL), .unset, .unset, .unset, .unset] [(.ref u_GREATER_EQUAL)])) rfl (by rw [hml]; rfl) (Steps.refl _) (argsL := []) (rest := []) (lenOf pd_1 rfl) rfl (by show 2 * 0 + _ ≤ _; exact Nat.le_of_eq rfl) (hb hby at_13) (fun _ _ => ⟨rfl, eh26, (by decide : 0 + 0 ≤ _), (by decide : 0 + 0 ≤ _)⟩)
    dsimp only [Pt.U, Pt.locs, Pt.cells, Pt.slots] at X27 l27 y27 z27 st27 hQ27
    subst l27 y27 z27
    obtain ⟨rfl, N27q, eh27⟩ := hQ27
    have N27 := Fr.app N26 N27q
    obtain ⟨cq28, kq28, q28a, q28b, q28c⟩ := isOf hZ eh27 E_u_GREATER_EQUAL
    obtain ⟨_, _, ⟨T28, L28, k28, n28⟩, -, X28, ⟨Lc28, hQ28, l28, y28, z28⟩, st28⟩ := X27.virtualBack hx (y := (⟨"com/example/chop/chop/compiler/Mark", "flag", "()Ljava/lang/String;"⟩ : MethodName)) (z := (⟨"com/example/chop/chop/compiler/Mark", "flag", "()Ljava/lang/String;"⟩ : MethodName)) hown (mvT hZ (hw _ (List.mem_of_getElem? (i := 17) rfl))) (mvT hZ (hw _ (List.mem_of_getElem? (i := 18) rfl))) (notFace_of_selects (args := #[]) (mvT hZ (hw _ (List.mem_of_getElem? (i := 20) rfl)))) (mvT hZ (hw _ (List.mem_of_getElem? (i := 20) rfl))) (mvT hZ (hw _ (List.mem_of_getElem? (i := 19) rfl))) (by decide) (backOf (W := 0) (rm1 l Z a0 hw [] u_GREATER_EQUAL u_GREATER_EQUAL_flag h0 n0 Z0 F_u_GREATER_EQUAL_flag) hZ (hw _ (List.mem_of_getElem? (i := 21) rfl)) (hw _ (List.mem_of_getElem? (i := 6) rfl)) (by decide) (by decide)) q28a q28c (g := (mkF m 18 #[.val (.int p0_0), .val (.int (4 : Int32)), .val (.ref u_GREATER_EQUAL), .val (.int (1 : Int32)), .unset, .unset, .unset] [(.ref u_GREATER_EQUAL)])) rfl (by rw [hml]; rfl) (Steps.refl _) (argsL := []) (rest := []) (lenOf pd_2 rfl) rfl (by show 2 * 0 + _ ≤ _; exact Nat.le_of_eq rfl) (hb hby at_18) (fun _ _ => ⟨rfl, eh27, (by decide : 0 + 0 ≤ _), (by decide : 0 + 0 ≤ _)⟩)
    dsimp only [Pt.U, Pt.locs, Pt.cells, Pt.slots] at X28 l28 y28 z28 st28 hQ28
    subst l28 y28 z28
    obtain ⟨rfl, N28q, eh28⟩ := hQ28
    have N28 := Fr.app N27 N28q
    obtain ⟨cq29, kq29, q29a, q29b, q29c⟩ := isOf hZ eh28 E_u_GREATER_EQUAL_flag
    obtain ⟨_, _, ⟨T29, L29, k29, n29⟩, -, X29, ⟨Lc29, hQ29, l29, y29, z29⟩, st29⟩ := X28.virtualBack hx (y := (⟨"java/lang/String", "isEmpty", "()Z"⟩ : MethodName)) (z := (⟨"java/lang/String", "isEmpty", "()Z"⟩ : MethodName)) hown (mvT hZ (hw _ (List.mem_of_getElem? (i := 24) rfl))) (mvT hZ (hw _ (List.mem_of_getElem? (i := 25) rfl))) (notFace_of_selects (args := #[]) (mvT hZ (hw _ (List.mem_of_getElem? (i := 27) rfl)))) (mvT hZ (hw _ (List.mem_of_getElem? (i := 27) rfl))) (mvT hZ (hw _ (List.mem_of_getElem? (i := 26) rfl))) (by decide) (backOf (W := 0) (rms12 l Z a0 hw [] u_GREATER_EQUAL_flag u_GREATER_EQUAL_flag_value cl_u_GREATER_EQUAL_flag_value.cls h0 n0 Z0 F_u_GREATER_EQUAL_flag_value V_u_GREATER_EQUAL_flag_value) hZ (hw _ (List.mem_of_getElem? (i := 29) rfl)) (hw _ (List.mem_of_getElem? (i := 28) rfl)) (by decide) (by decide)) q29a q29c (g := (mkF m 25 #[.val (.int p0_0), .val (.int (4 : Int32)), .val (.ref u_GREATER_EQUAL), .val (.int (1 : Int32)), .val (.ref u_GREATER_EQUAL_flag), .unset, .unset] [(.ref u_GREATER_EQUAL_flag)])) rfl (by rw [hml]; rfl) (Steps.refl _) (argsL := []) (rest := []) (lenOf pd_1 rfl) rfl (by show 2 * 0 + _ ≤ _; exact Nat.le_of_eq rfl) (hb hby at_25) (fun _ _ => ⟨rfl, eh28, (by decide : 0 + 0 ≤ _), (by decide : 0 + 0 ≤ _)⟩)
    dsimp only [Pt.U, Pt.locs, Pt.cells, Pt.slots] at X29 l29 y29 z29 st29 hQ29
    subst l29 y29 z29
    obtain ⟨rfl, N29q, eh29⟩ := hQ29
    have N29 := Fr.app N28 N29q
    obtain ⟨cq30, kq30, q30a, q30b, q30c⟩ := isOf hZ eh29 E_u_GREATER_EQUAL_flag
    obtain ⟨_, _, ⟨T30, L30, k30, n30⟩, -, X30, ⟨Lc30, hQ30, l30, y30, z30⟩, st30⟩ := X29.virtualBack hx (y := (⟨"java/lang/String", "charAt", "(I)C"⟩ : MethodName)) (z := (⟨"java/lang/String", "charAt", "(I)C"⟩ : MethodName)) hown (mvT hZ (hw _ (List.mem_of_getElem? (i := 33) rfl))) (mvT hZ (hw _ (List.mem_of_getElem? (i := 34) rfl))) (notFace_of_selects (args := #[]) (mvT hZ (hw _ (List.mem_of_getElem? (i := 36) rfl)))) (mvT hZ (hw _ (List.mem_of_getElem? (i := 36) rfl))) (mvT hZ (hw _ (List.mem_of_getElem? (i := 35) rfl))) (by decide) (backOf (W := 0) (rms14 l Z a0 hw [] u_GREATER_EQUAL_flag u_GREATER_EQUAL_flag_value cl_u_GREATER_EQUAL_flag_value.cls cs fm h0 n0 Z0 E_u_GREATER_EQUAL_flag F_u_GREATER_EQUAL_flag_value F_u_GREATER_EQUAL_flag_coder V_u_GREATER_EQUAL_flag_value Sc Sf hcs hfm) hZ (hw _ (List.mem_of_getElem? (i := 37) rfl)) (hw _ (List.mem_of_getElem? (i := 28) rfl)) (by decide) (by decide)) q30a q30c (g := (mkF m 34 #[.val (.int p0_0), .val (.int (4 : Int32)), .val (.ref u_GREATER_EQUAL), .val (.int (1 : Int32)), .val (.ref u_GREATER_EQUAL_flag), .unset, .unset] [(.int (0 : Int32)), (.ref u_GREATER_EQUAL_flag)])) rfl (by rw [hml]; rfl) (Steps.refl _) (argsL := [(.int (0 : Int32))]) (rest := []) (lenOf pd_6 rfl) rfl (by show 2 * 0 + _ ≤ _; exact Nat.le_of_eq rfl) (hb hby at_34) (fun _ _ => ⟨rfl, eh29, (by decide : 0 + 0 ≤ _), (by decide : 0 + 0 ≤ _)⟩)
    dsimp only [Pt.U, Pt.locs, Pt.cells, Pt.slots] at X30 l30 y30 z30 st30 hQ30
    subst l30 y30 z30
    obtain ⟨rfl, N30q, eh30⟩ := hQ30
    have N30 := Fr.app N29 N30q
    obtain ⟨cq31, kq31, q31a, q31b, q31c⟩ := isOf hZ eh30 E_u_GREATER_EQUAL
    obtain ⟨_, _, ⟨T31, L31, k31, n31⟩, -, X31, ⟨Lc31, hQ31, l31, y31, z31⟩, st31⟩ := X30.virtualBack hx (y := (⟨"com/example/chop/chop/compiler/Mark", "isActive", "()Z"⟩ : MethodName)) (z := (⟨"com/example/chop/chop/compiler/Mark", "isActive", "()Z"⟩ : MethodName)) hown (mvT hZ (hw _ (List.mem_of_getElem? (i := 58) rfl))) (mvT hZ (hw _ (List.mem_of_getElem? (i := 59) rfl))) (notFace_of_selects (args := #[]) (mvT hZ (hw _ (List.mem_of_getElem? (i := 61) rfl)))) (mvT hZ (hw _ (List.mem_of_getElem? (i := 61) rfl))) (mvT hZ (hw _ (List.mem_of_getElem? (i := 60) rfl))) (by decide) (backOf (W := 0) (rm16 l Z a0 hw [] u_GREATER_EQUAL u_INACTIVE h0 n0 Z0 S_INACTIVE (Ne.symm ne_INACTIVE_GREATER_EQUAL)) hZ (hw _ (List.mem_of_getElem? (i := 62) rfl)) (hw _ (List.mem_of_getElem? (i := 6) rfl)) (by decide) (by decide)) q31a q31c (g := (mkF m 83 #[.val (.int p0_0), .val (.int (4 : Int32)), .val (.ref u_GREATER_EQUAL), .val (.int (1 : Int32)), .val (.ref u_GREATER_EQUAL_flag), .val (.int (1 : Int32)), .val (.int (1 : Int32))] [(.ref u_GREATER_EQUAL)])) rfl (by rw [hml]; rfl) (Steps.refl _) (argsL := []) (rest := []) (lenOf pd_1 rfl) rfl (by show 2 * 0 + _ ≤ _; exact Nat.le_of_eq rfl) (hb hby at_83) (fun _ _ => ⟨rfl, eh30, (by decide : 0 + 0 ≤ _), (by decide : 0 + 0 ≤ _)⟩)
    dsimp only [Pt.U, Pt.locs, Pt.cells, Pt.slots] at X31 l31 y31 z31 st31 hQ31
    subst l31 y31 z31
    obtain ⟨rfl, N31q, eh31⟩ := hQ31
    have N31 := Fr.app N30 N31q
    have k32 : ∀ t, Steps p.tables e below (T31.setTop (mkF m 94 #[.val (.int p0_0), .val (.int (4 : Int32)), .val (.ref u_GREATER_EQUAL), .val (.int (1 : Int32)), .val (.ref u_GREATER_EQUAL_flag), .val (.int (1 : Int32)), .val (.int (1 : Int32))] [(.int (1 : Int32))])) t → Steps p.tables e below (s₁.setTop (entryFrame m #[(.int p0_0)] maxLocals)) t := by
      intro t k
      refine k1 t ?_
      show Steps p.tables e below (s₁.setTop (mkF m 7 #[.val (.int p0_0), .val (.int (4 : Int32)), .unset, .unset, .unset, .unset, .unset] [])) _
      refine XS.iloadN X0.here hx rfl (hb hby at_7) rfl ?_
      show Steps p.tables e below (s₁.setTop (mkF m 8 #[.val (.int p0_0), .val (.int (4 : Int32)), .unset, .unset, .unset, .unset, .unset] [(.int (4 : Int32))])) _
      refine st26 _ ?_
      show Steps p.tables e below (T26.setTop (mkF m 11 #[.val (.int p0_0), .val (.int (4 : Int32)), .unset, .unset, .unset, .unset, .unset] [(.ref u_GREATER_EQUAL)])) _
      refine XS.astoreN X26.here hx rfl (hb hby at_11) rfl rfl (l' := #[.val (.int p0_0), .val (.int (4 : Int32)), .val (.ref u_GREATER_EQUAL), .unset, .unset, .unset, .unset]) rfl ?_
      show Steps p.tables e below (T26.setTop (mkF m 12 #[.val (.int p0_0), .val (.int (4 : Int32)), .val (.ref u_GREATER_EQUAL), .unset, .unset, .unset, .unset] [])) _
      refine XS.aloadN X26.here hx rfl (hb hby at_12) rfl rfl ?_
      show Steps p.tables e below (T26.setTop (mkF m 13 #[.val (.int p0_0), .val (.int (4 : Int32)), .val (.ref u_GREATER_EQUAL), .unset, .unset, .unset, .unset] [(.ref u_GREATER_EQUAL)])) _
      refine st27.trans ?_
      show Steps p.tables e below (T27.setTop (mkF m 16 #[.val (.int p0_0), .val (.int (4 : Int32)), .val (.ref u_GREATER_EQUAL), .unset, .unset, .unset, .unset] [(.int (1 : Int32))])) _
      refine XS.istoreN X27.here hx rfl (hb hby at_16) rfl (l' := #[.val (.int p0_0), .val (.int (4 : Int32)), .val (.ref u_GREATER_EQUAL), .val (.int (1 : Int32)), .unset, .unset, .unset]) rfl ?_
      show Steps p.tables e below (T27.setTop (mkF m 17 #[.val (.int p0_0), .val (.int (4 : Int32)), .val (.ref u_GREATER_EQUAL), .val (.int (1 : Int32)), .unset, .unset, .unset] [])) _
      refine XS.aloadN X27.here hx rfl (hb hby at_17) rfl rfl ?_
      show Steps p.tables e below (T27.setTop (mkF m 18 #[.val (.int p0_0), .val (.int (4 : Int32)), .val (.ref u_GREATER_EQUAL), .val (.int (1 : Int32)), .unset, .unset, .unset] [(.ref u_GREATER_EQUAL)])) _
      refine st28.trans ?_
      show Steps p.tables e below (T28.setTop (mkF m 21 #[.val (.int p0_0), .val (.int (4 : Int32)), .val (.ref u_GREATER_EQUAL), .val (.int (1 : Int32)), .unset, .unset, .unset] [(.ref u_GREATER_EQUAL_flag)])) _
      refine XS.astore X28.here hx rfl (hb hby at_21) rfl rfl (l' := #[.val (.int p0_0), .val (.int (4 : Int32)), .val (.ref u_GREATER_EQUAL), .val (.int (1 : Int32)), .val (.ref u_GREATER_EQUAL_flag), .unset, .unset]) rfl ?_
      show Steps p.tables e below (T28.setTop (mkF m 23 #[.val (.int p0_0), .val (.int (4 : Int32)), .val (.ref u_GREATER_EQUAL), .val (.int (1 : Int32)), .val (.ref u_GREATER_EQUAL_flag), .unset, .unset] [])) _
      refine XS.aload X28.here hx rfl (hb hby at_23) rfl rfl ?_
      show Steps p.tables e below (T28.setTop (mkF m 25 #[.val (.int p0_0), .val (.int (4 : Int32)), .val (.ref u_GREATER_EQUAL), .val (.int (1 : Int32)), .val (.ref u_GREATER_EQUAL_flag), .unset, .unset] [(.ref u_GREATER_EQUAL_flag)])) _
      refine st29.trans ?_
      show Steps p.tables e below (T29.setTop (mkF m 28 #[.val (.int p0_0), .val (.int (4 : Int32)), .val (.ref u_GREATER_EQUAL), .val (.int (1 : Int32)), .val (.ref u_GREATER_EQUAL_flag), .unset, .unset] [(.int (0 : Int32))])) _
      refine XS.ifNo X29.here hx rfl (hb hby at_28) rfl ((if0 _ _).trans (teq (by decide : (0 : Int32) = (0 : Int32))).2) ?_
      show Steps p.tables e below (T29.setTop (mkF m 31 #[.val (.int p0_0), .val (.int (4 : Int32)), .val (.ref u_GREATER_EQUAL), .val (.int (1 : Int32)), .val (.ref u_GREATER_EQUAL_flag), .unset, .unset] [])) _
      refine XS.aload X29.here hx rfl (hb hby at_31) rfl rfl ?_
      show Steps p.tables e below (T29.setTop (mkF m 33 #[.val (.int p0_0), .val (.int (4 : Int32)), .val (.ref u_GREATER_EQUAL), .val (.int (1 : Int32)), .val (.ref u_GREATER_EQUAL_flag), .unset, .unset] [(.ref u_GREATER_EQUAL_flag)])) _
      refine XS.iconst X29.here hx rfl (hb hby at_33) ?_
      show Steps p.tables e below (T29.setTop (mkF m 34 #[.val (.int p0_0), .val (.int (4 : Int32)), .val (.ref u_GREATER_EQUAL), .val (.int (1 : Int32)), .val (.ref u_GREATER_EQUAL_flag), .unset, .unset] [(.int (0 : Int32)), (.ref u_GREATER_EQUAL_flag)])) _
      refine st30.trans ?_
      show Steps p.tables e below (T30.setTop (mkF m 37 #[.val (.int p0_0), .val (.int (4 : Int32)), .val (.ref u_GREATER_EQUAL), .val (.int (1 : Int32)), .val (.ref u_GREATER_EQUAL_flag), .unset, .unset] [(.int (62 : Int32))])) _
      refine XS.bipush X30.here hx rfl (hb hby at_37) ?_
      show Steps p.tables e below (T30.setTop (mkF m 39 #[.val (.int p0_0), .val (.int (4 : Int32)), .val (.ref u_GREATER_EQUAL), .val (.int (1 : Int32)), .val (.ref u_GREATER_EQUAL_flag), .unset, .unset] [(.int (62 : Int32)), (.int (62 : Int32))])) _
      refine XS.icmpNo X30.here hx rfl (hb hby at_39) rfl (teq (by decide : (62 : Int32) = (62 : Int32))).2 ?_
      show Steps p.tables e below (T30.setTop (mkF m 42 #[.val (.int p0_0), .val (.int (4 : Int32)), .val (.ref u_GREATER_EQUAL), .val (.int (1 : Int32)), .val (.ref u_GREATER_EQUAL_flag), .unset, .unset] [])) _
      refine XS.iconst X30.here hx rfl (hb hby at_42) ?_
      show Steps p.tables e below (T30.setTop (mkF m 43 #[.val (.int p0_0), .val (.int (4 : Int32)), .val (.ref u_GREATER_EQUAL), .val (.int (1 : Int32)), .val (.ref u_GREATER_EQUAL_flag), .unset, .unset] [(.int (1 : Int32))])) _
      refine XS.goto X30.here hx rfl (pc0 := 43) (pc' := 47) rfl (hb hby at_43) (by decide) (by decide) ?_
      show Steps p.tables e below (T30.setTop (mkF m 47 #[.val (.int p0_0), .val (.int (4 : Int32)), .val (.ref u_GREATER_EQUAL), .val (.int (1 : Int32)), .val (.ref u_GREATER_EQUAL_flag), .unset, .unset] [(.int (1 : Int32))])) _
      refine XS.istore X30.here hx rfl (hb hby at_47) rfl (l' := #[.val (.int p0_0), .val (.int (4 : Int32)), .val (.ref u_GREATER_EQUAL), .val (.int (1 : Int32)), .val (.ref u_GREATER_EQUAL_flag), .val (.int (1 : Int32)), .unset]) rfl ?_
      show Steps p.tables e below (T30.setTop (mkF m 49 #[.val (.int p0_0), .val (.int (4 : Int32)), .val (.ref u_GREATER_EQUAL), .val (.int (1 : Int32)), .val (.ref u_GREATER_EQUAL_flag), .val (.int (1 : Int32)), .unset] [])) _
      refine XS.iloadN X30.here hx rfl (hb hby at_49) rfl ?_
      show Steps p.tables e below (T30.setTop (mkF m 50 #[.val (.int p0_0), .val (.int (4 : Int32)), .val (.ref u_GREATER_EQUAL), .val (.int (1 : Int32)), .val (.ref u_GREATER_EQUAL_flag), .val (.int (1 : Int32)), .unset] [(.int (4 : Int32))])) _
      refine XS.iconst X30.here hx rfl (hb hby at_50) ?_
      show Steps p.tables e below (T30.setTop (mkF m 51 #[.val (.int p0_0), .val (.int (4 : Int32)), .val (.ref u_GREATER_EQUAL), .val (.int (1 : Int32)), .val (.ref u_GREATER_EQUAL_flag), .val (.int (1 : Int32)), .unset] [(.int (3 : Int32)), (.int (4 : Int32))])) _
      refine XS.icmpNo X30.here hx rfl (hb hby at_51) rfl (feq (by decide : ¬ ((4 : Int32) = (3 : Int32)))).1 ?_
      show Steps p.tables e below (T30.setTop (mkF m 54 #[.val (.int p0_0), .val (.int (4 : Int32)), .val (.ref u_GREATER_EQUAL), .val (.int (1 : Int32)), .val (.ref u_GREATER_EQUAL_flag), .val (.int (1 : Int32)), .unset] [])) _
      refine XS.iloadN X30.here hx rfl (hb hby at_54) rfl ?_
      show Steps p.tables e below (T30.setTop (mkF m 55 #[.val (.int p0_0), .val (.int (4 : Int32)), .val (.ref u_GREATER_EQUAL), .val (.int (1 : Int32)), .val (.ref u_GREATER_EQUAL_flag), .val (.int (1 : Int32)), .unset] [(.int (4 : Int32))])) _
      refine XS.iconst X30.here hx rfl (hb hby at_55) ?_
      show Steps p.tables e below (T30.setTop (mkF m 56 #[.val (.int p0_0), .val (.int (4 : Int32)), .val (.ref u_GREATER_EQUAL), .val (.int (1 : Int32)), .val (.ref u_GREATER_EQUAL_flag), .val (.int (1 : Int32)), .unset] [(.int (4 : Int32)), (.int (4 : Int32))])) _
      refine XS.icmpNo X30.here hx rfl (hb hby at_56) rfl (teq (by decide : (4 : Int32) = (4 : Int32))).2 ?_
      show Steps p.tables e below (T30.setTop (mkF m 59 #[.val (.int p0_0), .val (.int (4 : Int32)), .val (.ref u_GREATER_EQUAL), .val (.int (1 : Int32)), .val (.ref u_GREATER_EQUAL_flag), .val (.int (1 : Int32)), .unset] [])) _
      refine XS.iconst X30.here hx rfl (hb hby at_59) ?_
      show Steps p.tables e below (T30.setTop (mkF m 60 #[.val (.int p0_0), .val (.int (4 : Int32)), .val (.ref u_GREATER_EQUAL), .val (.int (1 : Int32)), .val (.ref u_GREATER_EQUAL_flag), .val (.int (1 : Int32)), .unset] [(.int (1 : Int32))])) _
      refine XS.goto X30.here hx rfl (pc0 := 60) (pc' := 64) rfl (hb hby at_60) (by decide) (by decide) ?_
      show Steps p.tables e below (T30.setTop (mkF m 64 #[.val (.int p0_0), .val (.int (4 : Int32)), .val (.ref u_GREATER_EQUAL), .val (.int (1 : Int32)), .val (.ref u_GREATER_EQUAL_flag), .val (.int (1 : Int32)), .unset] [(.int (1 : Int32))])) _
      refine XS.istore X30.here hx rfl (hb hby at_64) rfl (l' := #[.val (.int p0_0), .val (.int (4 : Int32)), .val (.ref u_GREATER_EQUAL), .val (.int (1 : Int32)), .val (.ref u_GREATER_EQUAL_flag), .val (.int (1 : Int32)), .val (.int (1 : Int32))]) rfl ?_
      show Steps p.tables e below (T30.setTop (mkF m 66 #[.val (.int p0_0), .val (.int (4 : Int32)), .val (.ref u_GREATER_EQUAL), .val (.int (1 : Int32)), .val (.ref u_GREATER_EQUAL_flag), .val (.int (1 : Int32)), .val (.int (1 : Int32))] [])) _
      refine XS.iloadN X30.here hx rfl (hb hby at_66) rfl ?_
      show Steps p.tables e below (T30.setTop (mkF m 67 #[.val (.int p0_0), .val (.int (4 : Int32)), .val (.ref u_GREATER_EQUAL), .val (.int (1 : Int32)), .val (.ref u_GREATER_EQUAL_flag), .val (.int (1 : Int32)), .val (.int (1 : Int32))] [(.int (1 : Int32))])) _
      refine XS.iload X30.here hx rfl (hb hby at_67) rfl ?_
      show Steps p.tables e below (T30.setTop (mkF m 69 #[.val (.int p0_0), .val (.int (4 : Int32)), .val (.ref u_GREATER_EQUAL), .val (.int (1 : Int32)), .val (.ref u_GREATER_EQUAL_flag), .val (.int (1 : Int32)), .val (.int (1 : Int32))] [(.int (1 : Int32)), (.int (1 : Int32))])) _
      refine XS.icmpNo X30.here hx rfl (hb hby at_69) rfl (teq (by decide : (1 : Int32) = (1 : Int32))).2 ?_
      show Steps p.tables e below (T30.setTop (mkF m 72 #[.val (.int p0_0), .val (.int (4 : Int32)), .val (.ref u_GREATER_EQUAL), .val (.int (1 : Int32)), .val (.ref u_GREATER_EQUAL_flag), .val (.int (1 : Int32)), .val (.int (1 : Int32))] [])) _
      refine XS.iloadN X30.here hx rfl (hb hby at_72) rfl ?_
      show Steps p.tables e below (T30.setTop (mkF m 73 #[.val (.int p0_0), .val (.int (4 : Int32)), .val (.ref u_GREATER_EQUAL), .val (.int (1 : Int32)), .val (.ref u_GREATER_EQUAL_flag), .val (.int (1 : Int32)), .val (.int (1 : Int32))] [(.int (1 : Int32))])) _
      refine XS.iload X30.here hx rfl (hb hby at_73) rfl ?_
      show Steps p.tables e below (T30.setTop (mkF m 75 #[.val (.int p0_0), .val (.int (4 : Int32)), .val (.ref u_GREATER_EQUAL), .val (.int (1 : Int32)), .val (.ref u_GREATER_EQUAL_flag), .val (.int (1 : Int32)), .val (.int (1 : Int32))] [(.int (1 : Int32)), (.int (1 : Int32))])) _
      refine XS.icmpNo X30.here hx rfl (hb hby at_75) rfl (teq (by decide : (1 : Int32) = (1 : Int32))).2 ?_
      show Steps p.tables e below (T30.setTop (mkF m 78 #[.val (.int p0_0), .val (.int (4 : Int32)), .val (.ref u_GREATER_EQUAL), .val (.int (1 : Int32)), .val (.ref u_GREATER_EQUAL_flag), .val (.int (1 : Int32)), .val (.int (1 : Int32))] [])) _
      refine XS.iloadN X30.here hx rfl (hb hby at_78) rfl ?_
      show Steps p.tables e below (T30.setTop (mkF m 79 #[.val (.int p0_0), .val (.int (4 : Int32)), .val (.ref u_GREATER_EQUAL), .val (.int (1 : Int32)), .val (.ref u_GREATER_EQUAL_flag), .val (.int (1 : Int32)), .val (.int (1 : Int32))] [(.int (1 : Int32))])) _
      refine XS.ifNo X30.here hx rfl (hb hby at_79) rfl ((if0 _ _).trans (feq (by decide : ¬ ((1 : Int32) = (0 : Int32)))).1) ?_
      show Steps p.tables e below (T30.setTop (mkF m 82 #[.val (.int p0_0), .val (.int (4 : Int32)), .val (.ref u_GREATER_EQUAL), .val (.int (1 : Int32)), .val (.ref u_GREATER_EQUAL_flag), .val (.int (1 : Int32)), .val (.int (1 : Int32))] [])) _
      refine XS.aloadN X30.here hx rfl (hb hby at_82) rfl rfl ?_
      show Steps p.tables e below (T30.setTop (mkF m 83 #[.val (.int p0_0), .val (.int (4 : Int32)), .val (.ref u_GREATER_EQUAL), .val (.int (1 : Int32)), .val (.ref u_GREATER_EQUAL_flag), .val (.int (1 : Int32)), .val (.int (1 : Int32))] [(.ref u_GREATER_EQUAL)])) _
      refine st31.trans ?_
      show Steps p.tables e below (T31.setTop (mkF m 86 #[.val (.int p0_0), .val (.int (4 : Int32)), .val (.ref u_GREATER_EQUAL), .val (.int (1 : Int32)), .val (.ref u_GREATER_EQUAL_flag), .val (.int (1 : Int32)), .val (.int (1 : Int32))] [(.int (1 : Int32))])) _
      refine XS.ifNo X31.here hx rfl (hb hby at_86) rfl ((if0 _ _).trans (feq (by decide : ¬ ((1 : Int32) = (0 : Int32)))).1) ?_
      show Steps p.tables e below (T31.setTop (mkF m 89 #[.val (.int p0_0), .val (.int (4 : Int32)), .val (.ref u_GREATER_EQUAL), .val (.int (1 : Int32)), .val (.ref u_GREATER_EQUAL_flag), .val (.int (1 : Int32)), .val (.int (1 : Int32))] [])) _
      refine XS.iconst X31.here hx rfl (hb hby at_89) ?_
      show Steps p.tables e below (T31.setTop (mkF m 90 #[.val (.int p0_0), .val (.int (4 : Int32)), .val (.ref u_GREATER_EQUAL), .val (.int (1 : Int32)), .val (.ref u_GREATER_EQUAL_flag), .val (.int (1 : Int32)), .val (.int (1 : Int32))] [(.int (1 : Int32))])) _
      refine XS.goto X31.here hx rfl (pc0 := 90) (pc' := 94) rfl (hb hby at_90) (by decide) (by decide) ?_
      exact k
    obtain ⟨fs, hr, hrun, hended, hW, hsame⟩ := X31.leave (v := some (.int (1 : Int32))) (fun h => by rw [Bd.returns] at h; cases h)
    refine ⟨_, _, k32 _ ?_, hrun, hended, _, _, rfl, ?_, ⟨_, rfl⟩, hW, hsame.mono (by decide) (by decide)⟩
    · exact retN X31 hx (t := .boolean) Bd.returns (by simp) (hb hby at_94) hr
    · show Q0 Z p0_0 u_INACTIVE u_GREATER u_GREATER_EQUAL u_INACTIVE_flag u_INACTIVE_flag_value cl_u_INACTIVE_flag_value u_GREATER_flag u_GREATER_flag_value cl_u_GREATER_flag_value u_ACTIVE u_GREATER_EQUAL_flag u_GREATER_EQUAL_flag_value cl_u_GREATER_EQUAL_flag_value u_LESS u_LESS_flag u_LESS_flag_value cl_u_LESS_flag_value cs fm h0 n0 _ T31.heap _
      rw [eh31]
      exact ⟨rfl, N31⟩
set_option maxRecDepth 65536 in
set_option maxHeartbeats 40000000 in
theorem comes_1 {Post : Tables → Env → Array Value → State → Outcome → State → Prop} (hpost : ∀ tb e args s v u, (limb_1_1.after args s (.returned v) u = true ∧ limb_1_2.after args s (.returned v) u = true ∧ True) → FrameEnd s (.returned v) u (Jvm.fieldLocs frame_1_writes args s ++ Jvm.arrayLocs frame_1_arrays args s ++ Jvm.staticLocs frame_1_statics s) 0 0 → Post tb e args s (.returned v) u) :
    ArmFor flags0 classFile x code maxLocals ret World_1 tables_1 room_1 Calls_1 rest_1 Pre_1 Post := by
  intro l hfl _ _ p e ha hc hk s m args below hf hA hF happ hP
  obtain ⟨hcalls, hrest, hpre⟩ := hP
  obtain ⟨-, -, -, hnamed, -, -, -, hat⟩ := (Spec.applies_iff hf).mp happ
  obtain ⟨hg, hn⟩ := and_e (Cond.before_iff.mp (show (Jvm.Cond.and given_1 narrow_1).before args s = true from hpre))
  obtain ⟨gv1, gv2⟩ := and_e hg
  obtain ⟨w0, rfl⟩ : ∃ w0 : Value, args = #[w0] := by
    have hs : args.size = 1 := by simpa [Cond.value, given_1] using gv1
    obtain ⟨L⟩ := args
    match L, hs with
    | [w0], _ => exact ⟨w0, rfl⟩
  have hw := fun d (hd : d ∈ tables_1) => atoms_spec (ws := Jvm.Cond.code x code maxLocals ret :: tables_1) hat d (List.mem_cons_of_mem _ hd)
  have hfit : Fit s := fun {y c} hc i hi => by
    obtain ⟨ha, rfl⟩ := Array.getElem?_eq_some_iff.mp hc
    have q := List.all_eq_true.mp ((Array.all_eq_true_iff_forall_mem.mp hF) _ (Array.getElem_mem ha)) i (List.mem_range.mpr hi)
    simpa [Array.getElem?_eq_getElem hi] using q
  obtain ⟨hsets, hown0⟩ := atoms_of _ (rest_1_c_eq ▸ (show rest_1_c.before _ s = true from hrest))
  have hr0 := Cond.before_iff.mp hown0
  obtain ⟨i0, ei0⟩ := is_v gv2
  obtain rfl : w0 = (.int i0) := Option.some.inj ei0
  obtain ⟨nv1, nv2⟩ := and_e hn
  obtain ⟨nv3, nv4⟩ := and_e nv2
  obtain ⟨nv5, nv6⟩ := and_e nv4
  obtain ⟨nv7, nv8⟩ := and_e nv6
  obtain ⟨nv9, nv10⟩ := and_e nv8
  obtain ⟨nv11, nv12⟩ := and_e nv10
  obtain ⟨nv13, nv14⟩ := and_e nv12
  obtain ⟨nv15, nv16⟩ := and_e nv14
  obtain ⟨nv17, nv18⟩ := and_e nv16
  obtain ⟨nv19, nv20⟩ := and_e nv18
  obtain ⟨nv21, nv22⟩ := and_e nv20
  obtain ⟨nv23, nv24⟩ := and_e nv22
  obtain ⟨nv25, nv26⟩ := and_e nv24
  obtain ⟨nv27, nv28⟩ := and_e nv26
  obtain ⟨nv29, nv30⟩ := and_e nv28
  obtain ⟨nv31, nv32⟩ := and_e nv30
  obtain ⟨nv33, nv34⟩ := and_e nv32
  obtain ⟨nv35, nv36⟩ := and_e nv34
  obtain ⟨nv37, nv38⟩ := and_e nv36
  obtain ⟨nv39, nv40⟩ := and_e nv38
  obtain ⟨nv41, nv42⟩ := and_e nv40
  obtain ⟨nv43, nv44⟩ := and_e nv42
  obtain ⟨nv45, nv46⟩ := and_e nv44
  obtain ⟨nv47, nv48⟩ := and_e nv46
  obtain ⟨nv49, nv50⟩ := and_e nv48
  obtain ⟨nv51, nv52⟩ := and_e nv50
  obtain ⟨nv53, nv54⟩ := and_e nv52
  obtain ⟨nv55, nv56⟩ := and_e nv54
  obtain ⟨nv57, nv58⟩ := and_e nv56
  obtain ⟨nv59, nv60⟩ := and_e nv58
  obtain ⟨u_INACTIVE, ev_u_INACTIVE, E_u_INACTIVE⟩ := own_ex nv1
  have S_INACTIVE : Sta s s.heap "com/example/chop/chop/compiler/Mark" "INACTIVE" "Lcom/example/chop/chop/compiler/Mark;" (.ref u_INACTIVE) := Sta.start ev_u_INACTIVE (Or.inr ⟨(hw _ (List.mem_of_getElem? (i := 6) rfl)), (hw _ (List.mem_of_getElem? (i := 7) rfl))⟩)
  obtain ⟨u_GREATER, ev_u_GREATER, E_u_GREATER⟩ := own_ex nv3
  have S_GREATER : Sta s s.heap "com/example/chop/chop/compiler/Mark" "GREATER" "Lcom/example/chop/chop/compiler/Mark;" (.ref u_GREATER) := Sta.start ev_u_GREATER (Or.inr ⟨(hw _ (List.mem_of_getElem? (i := 6) rfl)), (hw _ (List.mem_of_getElem? (i := 14) rfl))⟩)
  have e_1 := own_evI nv5
  have F_u_INACTIVE_ordinal : Fld s s.heap u_INACTIVE "java/lang/Enum" "ordinal" "I" (.int (0 : Int32)) := own_fldV ev_u_INACTIVE e_1
  have e_2 := own_evI nv7
  have F_u_GREATER_ordinal : Fld s s.heap u_GREATER "java/lang/Enum" "ordinal" "I" (.int (3 : Int32)) := own_fldV ev_u_GREATER e_2
  obtain ⟨u_GREATER_EQUAL, ev_u_GREATER_EQUAL, E_u_GREATER_EQUAL⟩ := own_ex nv9
  have S_GREATER_EQUAL : Sta s s.heap "com/example/chop/chop/compiler/Mark" "GREATER_EQUAL" "Lcom/example/chop/chop/compiler/Mark;" (.ref u_GREATER_EQUAL) := Sta.start ev_u_GREATER_EQUAL (Or.inr ⟨(hw _ (List.mem_of_getElem? (i := 6) rfl)), (hw _ (List.mem_of_getElem? (i := 16) rfl))⟩)
  have e_3 := own_evI nv11
  have F_u_GREATER_EQUAL_ordinal : Fld s s.heap u_GREATER_EQUAL "java/lang/Enum" "ordinal" "I" (.int (4 : Int32)) := own_fldV ev_u_GREATER_EQUAL e_3
  obtain ⟨u_INACTIVE_flag, ev_u_INACTIVE_flag, E_u_INACTIVE_flag⟩ := own_ex nv13
  have F_u_INACTIVE_flag : Fld s s.heap u_INACTIVE "com/example/chop/chop/compiler/Mark" "flag" "Ljava/lang/String;" (.ref u_INACTIVE_flag) := own_fldV ev_u_INACTIVE ev_u_INACTIVE_flag
  obtain ⟨u_INACTIVE_flag_value, ev_u_INACTIVE_flag_value⟩ := arr_v nv15
  obtain ⟨cl_u_INACTIVE_flag_value, Ar_u_INACTIVE_flag_value⟩ := Arr.start ev_u_INACTIVE_flag_value nv15
  have F_u_INACTIVE_flag_value : Fld s s.heap u_INACTIVE_flag "java/lang/String" "value" "[B" (.ref u_INACTIVE_flag_value) := own_fldV ev_u_INACTIVE_flag ev_u_INACTIVE_flag_value
  have e_4 := own_evI nv17
  obtain ⟨u_GREATER_flag, ev_u_GREATER_flag, E_u_GREATER_flag⟩ := own_ex nv19
  have F_u_GREATER_flag : Fld s s.heap u_GREATER "com/example/chop/chop/compiler/Mark" "flag" "Ljava/lang/String;" (.ref u_GREATER_flag) := own_fldV ev_u_GREATER ev_u_GREATER_flag
  obtain ⟨u_GREATER_flag_value, ev_u_GREATER_flag_value⟩ := arr_v nv21
  obtain ⟨cl_u_GREATER_flag_value, Ar_u_GREATER_flag_value⟩ := Arr.start ev_u_GREATER_flag_value nv21
  have F_u_GREATER_flag_value : Fld s s.heap u_GREATER_flag "java/lang/String" "value" "[B" (.ref u_GREATER_flag_value) := own_fldV ev_u_GREATER_flag ev_u_GREATER_flag_value
  have e_5 := own_evI nv23
  have e_6 := own_evI nv25
  have F_u_GREATER_flag_coder : Fld s s.heap u_GREATER_flag "java/lang/String" "coder" "B" (.int (0 : Int32)) := own_fldV ev_u_GREATER_flag e_6
  have e_7 := own_evI nv27
  obtain ⟨u_ACTIVE, ev_u_ACTIVE, E_u_ACTIVE⟩ := own_ex nv29
  have S_ACTIVE : Sta s s.heap "com/example/chop/chop/compiler/Mark" "ACTIVE" "Lcom/example/chop/chop/compiler/Mark;" (.ref u_ACTIVE) := Sta.start ev_u_ACTIVE (Or.inr ⟨(hw _ (List.mem_of_getElem? (i := 6) rfl)), (hw _ (List.mem_of_getElem? (i := 65) rfl))⟩)
  have e_8 := own_evI nv31
  have F_u_ACTIVE_ordinal : Fld s s.heap u_ACTIVE "java/lang/Enum" "ordinal" "I" (.int (1 : Int32)) := own_fldV ev_u_ACTIVE e_8
  have e_9 := own_evR nv33 ev_u_INACTIVE_flag
  have F_u_ACTIVE_flag : Fld s s.heap u_ACTIVE "com/example/chop/chop/compiler/Mark" "flag" "Ljava/lang/String;" (.ref u_INACTIVE_flag) := own_fldV ev_u_ACTIVE e_9
  obtain ⟨u_GREATER_EQUAL_flag, ev_u_GREATER_EQUAL_flag, E_u_GREATER_EQUAL_flag⟩ := own_ex nv35
  have F_u_GREATER_EQUAL_flag : Fld s s.heap u_GREATER_EQUAL "com/example/chop/chop/compiler/Mark" "flag" "Ljava/lang/String;" (.ref u_GREATER_EQUAL_flag) := own_fldV ev_u_GREATER_EQUAL ev_u_GREATER_EQUAL_flag
  obtain ⟨u_GREATER_EQUAL_flag_value, ev_u_GREATER_EQUAL_flag_value⟩ := arr_v nv37
  obtain ⟨cl_u_GREATER_EQUAL_flag_value, Ar_u_GREATER_EQUAL_flag_value⟩ := Arr.start ev_u_GREATER_EQUAL_flag_value nv37
  have F_u_GREATER_EQUAL_flag_value : Fld s s.heap u_GREATER_EQUAL_flag "java/lang/String" "value" "[B" (.ref u_GREATER_EQUAL_flag_value) := own_fldV ev_u_GREATER_EQUAL_flag ev_u_GREATER_EQUAL_flag_value
  have e_10 := own_evI nv39
  have e_11 := own_evI nv41
  have F_u_GREATER_EQUAL_flag_coder : Fld s s.heap u_GREATER_EQUAL_flag "java/lang/String" "coder" "B" (.int (0 : Int32)) := own_fldV ev_u_GREATER_EQUAL_flag e_11
  have e_12 := own_evI nv43
  obtain ⟨u_LESS, ev_u_LESS, E_u_LESS⟩ := own_ex nv45
  have S_LESS : Sta s s.heap "com/example/chop/chop/compiler/Mark" "LESS" "Lcom/example/chop/chop/compiler/Mark;" (.ref u_LESS) := Sta.start ev_u_LESS (Or.inr ⟨(hw _ (List.mem_of_getElem? (i := 6) rfl)), (hw _ (List.mem_of_getElem? (i := 68) rfl))⟩)
  have e_13 := own_evI nv47
  have F_u_LESS_ordinal : Fld s s.heap u_LESS "java/lang/Enum" "ordinal" "I" (.int (2 : Int32)) := own_fldV ev_u_LESS e_13
  obtain ⟨u_LESS_flag, ev_u_LESS_flag, E_u_LESS_flag⟩ := own_ex nv49
  have F_u_LESS_flag : Fld s s.heap u_LESS "com/example/chop/chop/compiler/Mark" "flag" "Ljava/lang/String;" (.ref u_LESS_flag) := own_fldV ev_u_LESS ev_u_LESS_flag
  obtain ⟨u_LESS_flag_value, ev_u_LESS_flag_value⟩ := arr_v nv51
  obtain ⟨cl_u_LESS_flag_value, Ar_u_LESS_flag_value⟩ := Arr.start ev_u_LESS_flag_value nv51
  have F_u_LESS_flag_value : Fld s s.heap u_LESS_flag "java/lang/String" "value" "[B" (.ref u_LESS_flag_value) := own_fldV ev_u_LESS_flag ev_u_LESS_flag_value
  have e_14 := own_evI nv53
  have e_15 := own_evI nv55
  have F_u_LESS_flag_coder : Fld s s.heap u_LESS_flag "java/lang/String" "coder" "B" (.int (0 : Int32)) := own_fldV ev_u_LESS_flag e_15
  have e_16 := own_evI nv57
  have e_17 := own_evI nv59
  have F_u_INACTIVE_flag_coder : Fld s s.heap u_INACTIVE_flag "java/lang/String" "coder" "B" (.int (0 : Int32)) := own_fldV ev_u_INACTIVE_flag e_17
  have e_18 := own_evI nv60
  have hl_u_INACTIVE_flag_value := own_len ev_u_INACTIVE_flag_value (Ar_u_INACTIVE_flag_value.fin (Vm.Alike.refl _)) e_4
  have V_u_INACTIVE_flag_value : Arv s s.heap u_INACTIVE_flag_value cl_u_INACTIVE_flag_value.cls .byte (0 : Int32) [] (.int (0 : Int32)) := Arv.start hfit Ar_u_INACTIVE_flag_value hl_u_INACTIVE_flag_value.1 hl_u_INACTIVE_flag_value.2 (by decide) rfl trivial
  have hl_u_GREATER_flag_value := own_len ev_u_GREATER_flag_value (Ar_u_GREATER_flag_value.fin (Vm.Alike.refl _)) e_5
  have V_u_GREATER_flag_value : Arv s s.heap u_GREATER_flag_value cl_u_GREATER_flag_value.cls .byte (1 : Int32) [(.int (62 : Int32))] (.int (0 : Int32)) := Arv.start hfit Ar_u_GREATER_flag_value hl_u_GREATER_flag_value.1 hl_u_GREATER_flag_value.2 (by decide) rfl ⟨(elem_in e_7 ev_u_GREATER_flag_value (Term.int_eval _) Ar_u_GREATER_flag_value.1).2, trivial⟩
  have hl_u_GREATER_EQUAL_flag_value := own_len ev_u_GREATER_EQUAL_flag_value (Ar_u_GREATER_EQUAL_flag_value.fin (Vm.Alike.refl _)) e_10
  have V_u_GREATER_EQUAL_flag_value : Arv s s.heap u_GREATER_EQUAL_flag_value cl_u_GREATER_EQUAL_flag_value.cls .byte (2 : Int32) [(.int (62 : Int32)), (.int (61 : Int32))] (.int (0 : Int32)) := Arv.start hfit Ar_u_GREATER_EQUAL_flag_value hl_u_GREATER_EQUAL_flag_value.1 hl_u_GREATER_EQUAL_flag_value.2 (by decide) rfl ⟨(elem_in e_12 ev_u_GREATER_EQUAL_flag_value (Term.int_eval _) Ar_u_GREATER_EQUAL_flag_value.1).2, (elem_in e_18 ev_u_GREATER_EQUAL_flag_value (Term.int_eval _) Ar_u_GREATER_EQUAL_flag_value.1).2, trivial⟩
  have hl_u_LESS_flag_value := own_len ev_u_LESS_flag_value (Ar_u_LESS_flag_value.fin (Vm.Alike.refl _)) e_14
  have V_u_LESS_flag_value : Arv s s.heap u_LESS_flag_value cl_u_LESS_flag_value.cls .byte (1 : Int32) [(.int (60 : Int32))] (.int (0 : Int32)) := Arv.start hfit Ar_u_LESS_flag_value hl_u_LESS_flag_value.1 hl_u_LESS_flag_value.2 (by decide) rfl ⟨(elem_in e_16 ev_u_LESS_flag_value (Term.int_eval _) Ar_u_LESS_flag_value.1).2, trivial⟩
  obtain ⟨cs, ev_cs⟩ := is_v (Cond.before_iff.mp (hsets _ (List.mem_of_getElem? (i := 1) rfl)))
  have Sc : Sta s s.heap "java/lang/String" "COMPACT_STRINGS" "Z" (.int cs) := Sta.start ev_cs (Or.inl (hsets _ (List.mem_of_getElem? (i := 0) rfl)))
  have hcs : ¬ (cs = (0 : Int32)) := gotF (Cond.eq_ints ev_cs (Term.int_eval _)) (not_v (Cond.before_iff.mp (hsets _ (List.mem_of_getElem? (i := 2) rfl))))
  obtain ⟨fm, ev_fm, hfm⟩ := isR_v (Cond.before_iff.mp (hsets _ (List.mem_of_getElem? (i := 8) rfl)))
  have Sf : Sta s s.heap "jdk/internal/util/Preconditions" "SIOOBE_FORMATTER" "Ljava/util/function/BiFunction;" fm := Sta.start ev_fm (Or.inl (hsets _ (List.mem_of_getElem? (i := 7) rfl)))
  obtain ⟨n, o, h1, h2, h3, _, L, rfl, ⟨rfl, N⟩, hq⟩ := rm0 l s _ hw tables_1 i0 u_INACTIVE u_GREATER u_GREATER_EQUAL u_INACTIVE_flag u_INACTIVE_flag_value cl_u_INACTIVE_flag_value u_GREATER_flag u_GREATER_flag_value cl_u_GREATER_flag_value u_ACTIVE u_GREATER_EQUAL_flag u_GREATER_EQUAL_flag_value cl_u_GREATER_EQUAL_flag_value u_LESS u_LESS_flag u_LESS_flag_value cl_u_LESS_flag_value cs fm s.heap s.heap.size (Nat.le_refl _) S_INACTIVE E_u_INACTIVE S_GREATER E_u_GREATER F_u_INACTIVE_ordinal F_u_GREATER_ordinal S_GREATER_EQUAL E_u_GREATER_EQUAL F_u_GREATER_EQUAL_ordinal F_u_INACTIVE_flag E_u_INACTIVE_flag F_u_INACTIVE_flag_value F_u_GREATER_flag E_u_GREATER_flag F_u_GREATER_flag_value F_u_GREATER_flag_coder S_ACTIVE E_u_ACTIVE F_u_ACTIVE_ordinal F_u_ACTIVE_flag F_u_GREATER_EQUAL_flag E_u_GREATER_EQUAL_flag F_u_GREATER_EQUAL_flag_value F_u_GREATER_EQUAL_flag_coder S_LESS E_u_LESS F_u_LESS_ordinal F_u_LESS_flag E_u_LESS_flag F_u_LESS_flag_value F_u_LESS_flag_coder F_u_INACTIVE_flag_coder V_u_INACTIVE_flag_value V_u_GREATER_flag_value V_u_GREATER_EQUAL_flag_value V_u_LESS_flag_value Sc Sf hcs hfm p e ha hc hk s m _ below hf ((Spec.applies_iff_loose hf).mp happ).1 ⟨rfl, State.Warmed39.refl s, rfl⟩ trivial
  refine ⟨n, _, h1, h2, h3, hpost _ _ _ _ _ _ ⟨Cond.after_iff.mpr rfl, Cond.after_iff.mpr (eq_i res_at (Term.int_eval (1)) rfl), trivial⟩ ⟨hq.1, hq.2.1, (hq.2.2.sift fun y hy => Or.inr (N y hy)).mono (by decide) (by decide)⟩⟩
theorem main_1_1 : Claimed_1_1 := comes_1 fun _ _ _ _ _ _ h hF => ⟨h.1, hF⟩
theorem main_1_2 : Claimed_1_2 := comes_1 fun _ _ _ _ _ _ h hF => ⟨h.2.1, hF⟩
end Jvm.Pilot.@@N@@
namespace Jvm.Pilot.@@N@@
open Jvm Jvm.ClassFile Sem Op Lib Jvm.Free Jvm.Stand Jvm.Pilot.@@N@@.Jvm.D
/-! MADE BY PROGRAM (witnessworld.py) out of the Statement's table words and the real class files: 18 classes; the members and pool entries that the words name. The judged class is class 1, her method 2. -/
namespace start1
open Jvm.ClassFile
def u (s : String) : CpInfo := .utf8 (stringToUtf16 s)
/-- a pool by its gaps: so many unusable entries, then the entry; so many at the end -/
def gap : Nat → List CpInfo → List CpInfo
  | 0, r => r
  | n + 1, r => .unusable :: gap n r
def poolList (es : List (Nat × CpInfo)) (last : Nat) : List CpInfo := es.foldr (fun e r => gap e.1 (e.2 :: r)) (gap last [])
def pool (es : List (Nat × CpInfo)) (last : Nat) : Array CpInfo := ⟨poolList es last⟩
def fileOf (pool : Array CpInfo) (this : Nat) (attrs : Array Attribute := #[]) (ms : Array MethodInfo := #[]) (fl : Nat := 33) (sup : Nat := 0) (ifs : Array Nat := #[]) (fds : Array FieldInfo := #[]) : ClassFile where
  minorVersion := 0
  majorVersion := 65
  constantPool := pool
  accessFlags := fl
  thisClass := this
  superClass := sup
  interfaces := ifs
  fields := fds
  methods := ms
  attributes := attrs
def plain (name : String) (sup : Option ClassId) : Class where
  name := name
  kind := .ordinary
  loader := none
  accessFlags := 33
  super := sup
  interfaces := #[]
  cf := none
  fields := #[]
  methods := #[]
  instanceTypes := #[]
  staticTypes := #[]
  resolved := #[]
  callSites := []
  init := .initialized
  statics := none
  mirror := none

def pool0 : Array CpInfo := pool [(5, u "<init>"), (0, u "()V"), (1, .class_ 10), (1, u "java/lang/Object")] 113

def k0m0 : Method := { name := "<init>", desc := "()V", sig := { parameters := [], returnType := none }, accessFlags := 1, code := none }
/-- java/lang/Object -/
def k0 : Class := { plain "java/lang/Object" none with
  accessFlags := 33
  interfaces := #[]
  cf := some (fileOf pool0 8 #[] #[{ accessFlags := 1, nameIndex := 5, descriptorIndex := 6, attributes := #[] }] 33 0 #[] #[])
  fields := #[]
  methods := #[k0m0]
  instanceTypes := #[]
  staticTypes := #[]
  resolved := Array.replicate 124 none
  statics := none }

def pool1 : Array CpInfo := pool [(2, .class_ 4), (1, u "java/lang/Object"), (0, u "<init>"), (0, u "()V"), (0, .fieldref 8 9), (0, .class_ 10), (0, .nameAndType 11 12), (0, u "com/example/chop/chop/compiler/Mark"), (0, u "INACTIVE"), (0, u "Lcom/example/chop/chop/compiler/Mark;"), (0, .fieldref 8 14), (0, .nameAndType 15 12), (0, u "ACTIVE"), (0, .fieldref 8 17), (0, .nameAndType 18 12), (0, u "LESS"), (0, .fieldref 8 20), (0, .nameAndType 21 12), (0, u "GREATER"), (0, .fieldref 8 23), (0, .nameAndType 24 12), (0, u "GREATER_EQUAL"), (0, .integer 2147483647), (0, .methodref 27 28), (0, .class_ 29), (0, .nameAndType 30 31), (0, u "com/example/chop/chop/compiler/MarkIsWaitingPinLaw"), (0, u "pick"), (0, u "(I)Lcom/example/chop/chop/compiler/Mark;"), (0, .methodref 8 33), (0, .nameAndType 34 35), (0, u "isWaiting"), (0, u "()Z"), (0, .methodref 8 37), (0, .nameAndType 38 39), (0, u "flag"), (0, u "()Ljava/lang/String;"), (0, .methodref 41 42), (0, .class_ 43), (0, .nameAndType 44 35), (0, u "java/lang/String"), (0, u "isEmpty"), (0, .methodref 41 46), (0, .nameAndType 47 48), (0, u "charAt"), (0, u "(I)C"), (0, .methodref 8 50), (0, .nameAndType 51 35), (0, u "isActive"), (3, u "law"), (0, u "(I)Z")] 2

def k1m0 : Method := { name := "<init>", desc := "()V", sig := { parameters := [], returnType := none }, accessFlags := 1, code := none }
def k1c1 : Code := { maxStack := 2, maxLocals := 1, code := method_2_code, exceptionTable := #[], attributes := #[] }
def k1m1 : Method := { name := "pick", desc := "(I)Lcom/example/chop/chop/compiler/Mark;", sig := { parameters := [.int], returnType := some (.object "com/example/chop/chop/compiler/Mark") }, accessFlags := 10, code := some k1c1 }
def k1c2 : Code := { maxStack := 2, maxLocals := 7, code := code, exceptionTable := #[], attributes := #[] }
def k1m2 : Method := { name := "law", desc := "(I)Z", sig := { parameters := [.int], returnType := some .boolean }, accessFlags := 9, code := some k1c2 }
/-- com/example/chop/chop/compiler/MarkIsWaitingPinLaw -/
def k1 : Class := { plain "com/example/chop/chop/compiler/MarkIsWaitingPinLaw" (some 0) with
  accessFlags := 49
  interfaces := #[]
  cf := some (fileOf pool1 27 #[] #[{ accessFlags := 1, nameIndex := 5, descriptorIndex := 6, attributes := #[] }, { accessFlags := 10, nameIndex := 30, descriptorIndex := 31, attributes := #[] }, { accessFlags := 9, nameIndex := 55, descriptorIndex := 56, attributes := #[] }] 49 2 #[] #[])
  fields := #[]
  methods := #[k1m0, k1m1, k1m2]
  instanceTypes := #[]
  staticTypes := #[]
  resolved := Array.replicate 59 none
  statics := none }

def pool2 : Array CpInfo := pool [(1, .class_ 2), (0, u "java/lang/constant/Constable"), (0, .class_ 4), (0, u "java/lang/Object")] 6

/-- java/lang/constant/Constable -/
def k2 : Class := { plain "java/lang/constant/Constable" (some 0) with
  accessFlags := 1537
  interfaces := #[]
  cf := some (fileOf pool2 1 #[] #[] 1537 3 #[] #[])
  fields := #[]
  methods := #[]
  instanceTypes := #[]
  staticTypes := #[]
  resolved := Array.replicate 11 none
  statics := none }

def pool3 : Array CpInfo := pool [(1, .class_ 2), (0, u "java/lang/Comparable"), (0, .class_ 4), (0, u "java/lang/Object")] 7

/-- java/lang/Comparable -/
def k3 : Class := { plain "java/lang/Comparable" (some 0) with
  accessFlags := 1537
  interfaces := #[]
  cf := some (fileOf pool3 1 #[] #[] 1537 3 #[] #[])
  fields := #[]
  methods := #[]
  instanceTypes := #[]
  staticTypes := #[]
  resolved := Array.replicate 12 none
  statics := none }

def pool4 : Array CpInfo := pool [(1, .class_ 2), (0, u "java/io/Serializable"), (0, .class_ 4), (0, u "java/lang/Object")] 2

/-- java/io/Serializable -/
def k4 : Class := { plain "java/io/Serializable" (some 0) with
  accessFlags := 1537
  interfaces := #[]
  cf := some (fileOf pool4 1 #[] #[] 1537 3 #[] #[])
  fields := #[]
  methods := #[]
  instanceTypes := #[]
  staticTypes := #[]
  resolved := Array.replicate 7 none
  statics := none }

def pool5 : Array CpInfo := pool [(2, .class_ 4), (1, u "java/lang/Enum"), (0, u "name"), (0, u "Ljava/lang/String;"), (2, u "ordinal"), (0, u "I"), (1, .class_ 14), (1, u "java/lang/Object"), (4, u "hash"), (86, .class_ 108), (1, u "java/lang/Enum$EnumDesc"), (2, .class_ 112), (0, u "java/lang/constant/Constable"), (0, .class_ 114), (0, u "java/lang/Comparable"), (0, .class_ 116), (0, u "java/io/Serializable")] 87

/-- java/lang/Enum -/
def k5 : Class := { plain "java/lang/Enum" (some 0) with
  accessFlags := 1057
  interfaces := #[2, 3, 4]
  cf := some (fileOf pool5 2 #[.nestMembers #[106]] #[] 1057 12 #[111, 113, 115] #[{ accessFlags := 18, nameIndex := 5, descriptorIndex := 6, attributes := #[] }, { accessFlags := 18, nameIndex := 9, descriptorIndex := 10, attributes := #[] }, { accessFlags := 2, nameIndex := 19, descriptorIndex := 10, attributes := #[] }])
  fields := #[{ name := "name", type := (.object "java/lang/String"), accessFlags := 18, slot := 0, constantValue := 0 }, { name := "ordinal", type := .int, accessFlags := 18, slot := 1, constantValue := 0 }, { name := "hash", type := .int, accessFlags := 2, slot := 2, constantValue := 0 }]
  methods := #[]
  instanceTypes := #[(.object "java/lang/String"), .int, .int]
  staticTypes := #[]
  resolved := Array.replicate 204 none
  statics := none }

def pool6 : Array CpInfo := pool [(1, .class_ 2), (0, u "com/example/chop/chop/compiler/Mark"), (0, .fieldref 1 4), (0, .nameAndType 5 6), (0, u "INACTIVE"), (0, u "Lcom/example/chop/chop/compiler/Mark;"), (2, u "ACTIVE"), (2, u "LESS"), (0, .fieldref 1 14), (0, .nameAndType 15 6), (0, u "GREATER"), (0, .fieldref 1 17), (0, .nameAndType 18 6), (0, u "GREATER_EQUAL"), (2, u "$VALUES"), (0, u "[Lcom/example/chop/chop/compiler/Mark;"), (6, .class_ 31), (1, u "java/lang/Enum"), (6, .fieldref 1 39), (0, .nameAndType 40 41), (0, u "flag"), (0, u "Ljava/lang/String;"), (27, u "()Ljava/lang/String;"), (0, u "isActive"), (0, u "()Z"), (1, u "isWaiting")] 5

def k6c0 : Code := { maxStack := 1, maxLocals := 1, code := prog_1_method_4_code, exceptionTable := #[], attributes := #[] }
def k6m0 : Method := { name := "flag", desc := "()Ljava/lang/String;", sig := { parameters := [], returnType := some (.object "java/lang/String") }, accessFlags := 0, code := some k6c0 }
def k6c1 : Code := { maxStack := 2, maxLocals := 1, code := prog_1_method_5_code, exceptionTable := #[], attributes := #[] }
def k6m1 : Method := { name := "isActive", desc := "()Z", sig := { parameters := [], returnType := some .boolean }, accessFlags := 0, code := some k6c1 }
def k6c2 : Code := { maxStack := 2, maxLocals := 1, code := prog_1_method_6_code, exceptionTable := #[], attributes := #[] }
def k6m2 : Method := { name := "isWaiting", desc := "()Z", sig := { parameters := [], returnType := some .boolean }, accessFlags := 0, code := some k6c2 }
/-- com/example/chop/chop/compiler/Mark -/
def k6 : Class := { plain "com/example/chop/chop/compiler/Mark" (some 5) with
  accessFlags := 16432
  interfaces := #[]
  cf := some (fileOf pool6 1 #[] #[{ accessFlags := 0, nameIndex := 40, descriptorIndex := 69, attributes := #[] }, { accessFlags := 0, nameIndex := 70, descriptorIndex := 71, attributes := #[] }, { accessFlags := 0, nameIndex := 73, descriptorIndex := 71, attributes := #[] }] 16432 29 #[] #[{ accessFlags := 16409, nameIndex := 5, descriptorIndex := 6, attributes := #[] }, { accessFlags := 16409, nameIndex := 9, descriptorIndex := 6, attributes := #[] }, { accessFlags := 16409, nameIndex := 12, descriptorIndex := 6, attributes := #[] }, { accessFlags := 16409, nameIndex := 15, descriptorIndex := 6, attributes := #[] }, { accessFlags := 16409, nameIndex := 18, descriptorIndex := 6, attributes := #[] }, { accessFlags := 18, nameIndex := 40, descriptorIndex := 41, attributes := #[] }, { accessFlags := 4122, nameIndex := 21, descriptorIndex := 22, attributes := #[] }])
  fields := #[{ name := "INACTIVE", type := (.object "com/example/chop/chop/compiler/Mark"), accessFlags := 16409, slot := 0, constantValue := 0 }, { name := "ACTIVE", type := (.object "com/example/chop/chop/compiler/Mark"), accessFlags := 16409, slot := 1, constantValue := 0 }, { name := "LESS", type := (.object "com/example/chop/chop/compiler/Mark"), accessFlags := 16409, slot := 2, constantValue := 0 }, { name := "GREATER", type := (.object "com/example/chop/chop/compiler/Mark"), accessFlags := 16409, slot := 3, constantValue := 0 }, { name := "GREATER_EQUAL", type := (.object "com/example/chop/chop/compiler/Mark"), accessFlags := 16409, slot := 4, constantValue := 0 }, { name := "flag", type := (.object "java/lang/String"), accessFlags := 18, slot := 3, constantValue := 0 }, { name := "$VALUES", type := (.array (.object "com/example/chop/chop/compiler/Mark")), accessFlags := 4122, slot := 5, constantValue := 0 }]
  methods := #[k6m0, k6m1, k6m2]
  instanceTypes := #[(.object "java/lang/String"), .int, .int, (.object "java/lang/String")]
  staticTypes := #[(.object "com/example/chop/chop/compiler/Mark"), (.object "com/example/chop/chop/compiler/Mark"), (.object "com/example/chop/chop/compiler/Mark"), (.object "com/example/chop/chop/compiler/Mark"), (.object "com/example/chop/chop/compiler/Mark"), (.array (.object "com/example/chop/chop/compiler/Mark"))]
  resolved := Array.replicate 79 none
  statics := some 0 }

def pool7 : Array CpInfo := pool [(2, .class_ 4), (1, u "java/lang/CharSequence"), (42, .class_ 48), (0, u "java/lang/CharSequence$1CodePointIterator"), (10, .class_ 60), (0, u "java/lang/CharSequence$1CharIterator"), (5, .class_ 67), (0, u "java/lang/Object")] 63

/-- java/lang/CharSequence -/
def k7 : Class := { plain "java/lang/CharSequence" (some 0) with
  accessFlags := 1537
  interfaces := #[]
  cf := some (fileOf pool7 2 #[.nestMembers #[47, 59]] #[] 1537 66 #[] #[])
  fields := #[]
  methods := #[]
  instanceTypes := #[]
  staticTypes := #[]
  resolved := Array.replicate 131 none
  statics := none }

def pool8 : Array CpInfo := pool [(1, .class_ 2), (0, u "java/lang/constant/ConstantDesc"), (0, .class_ 4), (0, u "java/lang/Object")] 32

/-- java/lang/constant/ConstantDesc -/
def k8 : Class := { plain "java/lang/constant/ConstantDesc" (some 0) with
  accessFlags := 1537
  interfaces := #[]
  cf := some (fileOf pool8 1 #[] #[] 1537 3 #[] #[])
  fields := #[]
  methods := #[]
  instanceTypes := #[]
  staticTypes := #[]
  resolved := Array.replicate 37 none
  statics := none }

def pool9 : Array CpInfo := pool [(2, .class_ 4), (1, u "java/lang/Object"), (0, u "<init>"), (0, u "()V"), (2, .fieldref 10 11), (0, .class_ 12), (0, .nameAndType 13 14), (0, u "java/lang/String"), (0, u "value"), (0, u "[B"), (0, .fieldref 10 16), (0, .nameAndType 17 18), (0, u "coder"), (0, u "B"), (2, u "hash"), (0, u "I"), (2, u "hashIsZero"), (0, u "Z"), (11, .fieldref 10 39), (0, .nameAndType 40 26), (0, u "COMPACT_STRINGS"), (66, .class_ 109), (1, u "java/lang/StringLatin1"), (32, u "()Z"), (220, u "([BI)C"), (27, u "(II)V"), (35, u "(I)C"), (64, .methodref 10 493), (0, .nameAndType 494 142), (0, u "isLatin1"), (0, .methodref 107 496), (0, .nameAndType 497 363), (0, u "charAt"), (3, u "checkIndex"), (73, .class_ 576), (0, u "java/lang/CharSequence"), (22, u "CASE_INSENSITIVE_ORDER"), (0, u "Ljava/util/Comparator;"), (91, u "isEmpty"), (360, .fieldref 1054 1055), (0, .class_ 1056), (0, .nameAndType 1057 1058), (0, u "jdk/internal/util/Preconditions"), (0, u "SIOOBE_FORMATTER"), (0, u "Ljava/util/function/BiFunction;"), (0, .methodref 1054 1060), (0, .nameAndType 501 1061), (0, u "(IILjava/util/function/BiFunction;)I"), (39, u "serialPersistentFields"), (0, u "[Ljava/io/ObjectStreamField;"), (0, .class_ 1104), (0, u "java/lang/String$CaseInsensitiveComparator"), (1, .class_ 1107), (0, u "java/io/Serializable"), (0, .class_ 1109), (0, u "java/lang/Comparable"), (0, .class_ 1111), (0, u "java/lang/constant/Constable"), (0, .class_ 1113), (0, u "java/lang/constant/ConstantDesc"), (2, u "serialVersionUID"), (0, u "J"), (3, u "REPL"), (0, u "C"), (2, u "LATIN1"), (1, u "UTF16")] 323

def k9m0 : Method := { name := "<init>", desc := "()V", sig := { parameters := [], returnType := none }, accessFlags := 1, code := none }
def k9c1 : Code := { maxStack := 1, maxLocals := 1, code := jdk_42_method_55_code, exceptionTable := #[], attributes := #[] }
def k9m1 : Method := { name := "isEmpty", desc := "()Z", sig := { parameters := [], returnType := some .boolean }, accessFlags := 1, code := some k9c1 }
def k9c2 : Code := { maxStack := 2, maxLocals := 2, code := jdk_42_method_56_code, exceptionTable := #[], attributes := #[] }
def k9m2 : Method := { name := "charAt", desc := "(I)C", sig := { parameters := [.int], returnType := some .char }, accessFlags := 1, code := some k9c2 }
def k9c3 : Code := { maxStack := 1, maxLocals := 1, code := jdk_42_method_154_code, exceptionTable := #[], attributes := #[] }
def k9m3 : Method := { name := "isLatin1", desc := "()Z", sig := { parameters := [], returnType := some .boolean }, accessFlags := 0, code := some k9c3 }
def k9c4 : Code := { maxStack := 3, maxLocals := 2, code := jdk_42_method_155_code, exceptionTable := #[], attributes := #[] }
def k9m4 : Method := { name := "checkIndex", desc := "(II)V", sig := { parameters := [.int, .int], returnType := none }, accessFlags := 8, code := some k9c4 }
/-- java/lang/String -/
def k9 : Class := { plain "java/lang/String" (some 0) with
  accessFlags := 49
  interfaces := #[4, 3, 7, 2, 8]
  cf := some (fileOf pool9 10 #[.nestMembers #[1103]] #[{ accessFlags := 1, nameIndex := 5, descriptorIndex := 6, attributes := #[] }, { accessFlags := 1, nameIndex := 692, descriptorIndex := 142, attributes := #[] }, { accessFlags := 1, nameIndex := 497, descriptorIndex := 427, attributes := #[] }, { accessFlags := 0, nameIndex := 494, descriptorIndex := 142, attributes := #[] }, { accessFlags := 8, nameIndex := 501, descriptorIndex := 391, attributes := #[] }] 49 2 #[1106, 1108, 575, 1110, 1112] #[{ accessFlags := 18, nameIndex := 13, descriptorIndex := 14, attributes := #[] }, { accessFlags := 18, nameIndex := 17, descriptorIndex := 18, attributes := #[] }, { accessFlags := 2, nameIndex := 21, descriptorIndex := 22, attributes := #[] }, { accessFlags := 2, nameIndex := 25, descriptorIndex := 26, attributes := #[] }, { accessFlags := 26, nameIndex := 1116, descriptorIndex := 1117, attributes := #[] }, { accessFlags := 24, nameIndex := 40, descriptorIndex := 26, attributes := #[] }, { accessFlags := 26, nameIndex := 1101, descriptorIndex := 1102, attributes := #[] }, { accessFlags := 26, nameIndex := 1121, descriptorIndex := 1122, attributes := #[] }, { accessFlags := 25, nameIndex := 599, descriptorIndex := 600, attributes := #[] }, { accessFlags := 24, nameIndex := 1125, descriptorIndex := 18, attributes := #[] }, { accessFlags := 24, nameIndex := 1127, descriptorIndex := 18, attributes := #[] }])
  fields := #[{ name := "value", type := (.array .byte), accessFlags := 18, slot := 0, constantValue := 0 }, { name := "coder", type := .byte, accessFlags := 18, slot := 1, constantValue := 0 }, { name := "hash", type := .int, accessFlags := 2, slot := 2, constantValue := 0 }, { name := "hashIsZero", type := .boolean, accessFlags := 2, slot := 3, constantValue := 0 }, { name := "serialVersionUID", type := .long, accessFlags := 26, slot := 0, constantValue := 0 }, { name := "COMPACT_STRINGS", type := .boolean, accessFlags := 24, slot := 1, constantValue := 0 }, { name := "serialPersistentFields", type := (.array (.object "java/io/ObjectStreamField")), accessFlags := 26, slot := 2, constantValue := 0 }, { name := "REPL", type := .char, accessFlags := 26, slot := 3, constantValue := 0 }, { name := "CASE_INSENSITIVE_ORDER", type := (.object "java/util/Comparator"), accessFlags := 25, slot := 4, constantValue := 0 }, { name := "LATIN1", type := .byte, accessFlags := 24, slot := 5, constantValue := 0 }, { name := "UTF16", type := .byte, accessFlags := 24, slot := 6, constantValue := 0 }]
  methods := #[k9m0, k9m1, k9m2, k9m3, k9m4]
  instanceTypes := #[(.array .byte), .byte, .int, .boolean]
  staticTypes := #[.long, .boolean, (.array (.object "java/io/ObjectStreamField")), .char, (.object "java/util/Comparator"), .byte, .byte]
  resolved := Array.replicate 1451 none
  statics := some 1 }

def pool10 : Array CpInfo := pool [(1, .class_ 2), (0, u "java/lang/String"), (1, .class_ 6), (1, u "java/lang/Object"), (0, u "<init>"), (0, u "()V"), (0, .methodref 1 10), (0, .nameAndType 11 12), (0, u "checkIndex"), (0, u "(II)V"), (1, .class_ 16), (1, u "java/lang/StringLatin1"), (36, u "([BI)C"), (67, u "$assertionsDisabled"), (0, u "Z"), (98, .class_ 223), (1, u "java/lang/StringLatin1$LinesSpliterator"), (28, u "charAt"), (137, .class_ 391), (0, u "java/lang/StringLatin1$CharsSpliterator")] 3

def k10m0 : Method := { name := "<init>", desc := "()V", sig := { parameters := [], returnType := none }, accessFlags := 0, code := none }
def k10c1 : Code := { maxStack := 2, maxLocals := 2, code := jdk_43_method_2_code, exceptionTable := #[], attributes := #[] }
def k10m1 : Method := { name := "charAt", desc := "([BI)C", sig := { parameters := [(.array .byte), .int], returnType := some .char }, accessFlags := 9, code := some k10c1 }
/-- java/lang/StringLatin1 -/
def k10 : Class := { plain "java/lang/StringLatin1" (some 0) with
  accessFlags := 48
  interfaces := #[]
  cf := some (fileOf pool10 14 #[.nestMembers #[390, 221]] #[{ accessFlags := 0, nameIndex := 7, descriptorIndex := 8, attributes := #[] }, { accessFlags := 9, nameIndex := 252, descriptorIndex := 53, attributes := #[] }] 48 4 #[] #[{ accessFlags := 4120, nameIndex := 121, descriptorIndex := 122, attributes := #[] }])
  fields := #[{ name := "$assertionsDisabled", type := .boolean, accessFlags := 4120, slot := 0, constantValue := 0 }]
  methods := #[k10m0, k10m1]
  instanceTypes := #[]
  staticTypes := #[.boolean]
  resolved := Array.replicate 395 none
  statics := none }

def pool11 : Array CpInfo := pool [(2, .class_ 4), (1, u "java/lang/Object"), (0, u "<init>"), (0, u "()V"), (17, .class_ 26), (1, u "jdk/internal/util/Preconditions"), (6, u "checkIndex"), (21, .class_ 56), (0, u "jdk/internal/util/Preconditions$4"), (57, .class_ 115), (0, u "jdk/internal/util/Preconditions$1"), (7, u "SIOOBE_FORMATTER"), (0, u "Ljava/util/function/BiFunction;"), (0, .class_ 126), (0, u "jdk/internal/util/Preconditions$2"), (3, u "AIOOBE_FORMATTER"), (0, .class_ 132), (0, u "jdk/internal/util/Preconditions$3"), (3, u "IOOBE_FORMATTER"), (41, u "(IILjava/util/function/BiFunction;)I")] 15

def k11m0 : Method := { name := "<init>", desc := "()V", sig := { parameters := [], returnType := none }, accessFlags := 1, code := none }
def k11c1 : Code := { maxStack := 3, maxLocals := 3, code := jdk_41_method_11_code, exceptionTable := #[], attributes := #[] }
def k11m1 : Method := { name := "checkIndex", desc := "(IILjava/util/function/BiFunction;)I", sig := { parameters := [.int, .int, (.object "java/util/function/BiFunction")], returnType := some .int }, accessFlags := 9, code := some k11c1 }
/-- jdk/internal/util/Preconditions -/
def k11 : Class := { plain "jdk/internal/util/Preconditions" (some 0) with
  accessFlags := 33
  interfaces := #[]
  cf := some (fileOf pool11 24 #[.nestMembers #[55, 131, 125, 114]] #[{ accessFlags := 1, nameIndex := 5, descriptorIndex := 6, attributes := #[] }, { accessFlags := 9, nameIndex := 33, descriptorIndex := 178, attributes := #[] }] 33 2 #[] #[{ accessFlags := 25, nameIndex := 123, descriptorIndex := 124, attributes := #[] }, { accessFlags := 25, nameIndex := 130, descriptorIndex := 124, attributes := #[] }, { accessFlags := 25, nameIndex := 136, descriptorIndex := 124, attributes := #[] }])
  fields := #[{ name := "SIOOBE_FORMATTER", type := (.object "java/util/function/BiFunction"), accessFlags := 25, slot := 0, constantValue := 0 }, { name := "AIOOBE_FORMATTER", type := (.object "java/util/function/BiFunction"), accessFlags := 25, slot := 1, constantValue := 0 }, { name := "IOOBE_FORMATTER", type := (.object "java/util/function/BiFunction"), accessFlags := 25, slot := 2, constantValue := 0 }]
  methods := #[k11m0, k11m1]
  instanceTypes := #[]
  staticTypes := #[(.object "java/util/function/BiFunction"), (.object "java/util/function/BiFunction"), (.object "java/util/function/BiFunction")]
  resolved := Array.replicate 194 none
  statics := some 2 }

def pool12 : Array CpInfo := pool [(9, u "<init>"), (6, .class_ 18), (1, u "java/lang/Object"), (0, u "()V"), (1, .class_ 23), (1, u "jdk/internal/util/ArraysSupport"), (0, u "LOG2_ARRAY_LONG_INDEX_SCALE"), (0, u "I"), (2, u "U"), (0, u "Ljdk/internal/misc/Unsafe;"), (8, u "BIG_ENDIAN"), (0, u "Z"), (8, u "LOG2_BYTE_BIT_SIZE"), (4, u "LOG2_ARRAY_INT_INDEX_SCALE"), (54, u "JLA"), (0, u "Ljdk/internal/access/JavaLangAccess;"), (11, u "LOG2_ARRAY_BOOLEAN_INDEX_SCALE"), (9, u "LOG2_ARRAY_BYTE_INDEX_SCALE"), (5, u "LOG2_ARRAY_CHAR_INDEX_SCALE"), (5, u "LOG2_ARRAY_SHORT_INDEX_SCALE"), (18, u "LOG2_ARRAY_FLOAT_INDEX_SCALE"), (24, u "LOG2_ARRAY_DOUBLE_INDEX_SCALE"), (89, u "T_BOOLEAN"), (2, u "T_CHAR"), (1, u "T_FLOAT"), (1, u "T_DOUBLE"), (1, u "T_BYTE"), (1, u "T_SHORT"), (1, u "T_INT"), (1, u "T_LONG"), (1, u "SOFT_MAX_ARRAY_LENGTH")] 83

def k12m0 : Method := { name := "<init>", desc := "()V", sig := { parameters := [], returnType := none }, accessFlags := 2, code := none }
/-- jdk/internal/util/ArraysSupport -/
def k12 : Class := { plain "jdk/internal/util/ArraysSupport" (some 0) with
  accessFlags := 33
  interfaces := #[]
  cf := some (fileOf pool12 21 #[] #[{ accessFlags := 2, nameIndex := 9, descriptorIndex := 19, attributes := #[] }] 33 16 #[] #[{ accessFlags := 24, nameIndex := 28, descriptorIndex := 29, attributes := #[] }, { accessFlags := 26, nameIndex := 38, descriptorIndex := 39, attributes := #[] }, { accessFlags := 25, nameIndex := 121, descriptorIndex := 25, attributes := #[] }, { accessFlags := 25, nameIndex := 131, descriptorIndex := 25, attributes := #[] }, { accessFlags := 25, nameIndex := 137, descriptorIndex := 25, attributes := #[] }, { accessFlags := 25, nameIndex := 143, descriptorIndex := 25, attributes := #[] }, { accessFlags := 25, nameIndex := 53, descriptorIndex := 25, attributes := #[] }, { accessFlags := 25, nameIndex := 24, descriptorIndex := 25, attributes := #[] }, { accessFlags := 25, nameIndex := 162, descriptorIndex := 25, attributes := #[] }, { accessFlags := 25, nameIndex := 187, descriptorIndex := 25, attributes := #[] }, { accessFlags := 26, nameIndex := 48, descriptorIndex := 25, attributes := #[] }, { accessFlags := 25, nameIndex := 277, descriptorIndex := 25, attributes := #[] }, { accessFlags := 25, nameIndex := 280, descriptorIndex := 25, attributes := #[] }, { accessFlags := 25, nameIndex := 282, descriptorIndex := 25, attributes := #[] }, { accessFlags := 25, nameIndex := 284, descriptorIndex := 25, attributes := #[] }, { accessFlags := 25, nameIndex := 286, descriptorIndex := 25, attributes := #[] }, { accessFlags := 25, nameIndex := 288, descriptorIndex := 25, attributes := #[] }, { accessFlags := 25, nameIndex := 290, descriptorIndex := 25, attributes := #[] }, { accessFlags := 25, nameIndex := 292, descriptorIndex := 25, attributes := #[] }, { accessFlags := 26, nameIndex := 108, descriptorIndex := 109, attributes := #[] }, { accessFlags := 25, nameIndex := 294, descriptorIndex := 25, attributes := #[] }])
  fields := #[{ name := "U", type := (.object "jdk/internal/misc/Unsafe"), accessFlags := 24, slot := 0, constantValue := 0 }, { name := "BIG_ENDIAN", type := .boolean, accessFlags := 26, slot := 1, constantValue := 0 }, { name := "LOG2_ARRAY_BOOLEAN_INDEX_SCALE", type := .int, accessFlags := 25, slot := 2, constantValue := 0 }, { name := "LOG2_ARRAY_BYTE_INDEX_SCALE", type := .int, accessFlags := 25, slot := 3, constantValue := 0 }, { name := "LOG2_ARRAY_CHAR_INDEX_SCALE", type := .int, accessFlags := 25, slot := 4, constantValue := 0 }, { name := "LOG2_ARRAY_SHORT_INDEX_SCALE", type := .int, accessFlags := 25, slot := 5, constantValue := 0 }, { name := "LOG2_ARRAY_INT_INDEX_SCALE", type := .int, accessFlags := 25, slot := 6, constantValue := 0 }, { name := "LOG2_ARRAY_LONG_INDEX_SCALE", type := .int, accessFlags := 25, slot := 7, constantValue := 0 }, { name := "LOG2_ARRAY_FLOAT_INDEX_SCALE", type := .int, accessFlags := 25, slot := 8, constantValue := 0 }, { name := "LOG2_ARRAY_DOUBLE_INDEX_SCALE", type := .int, accessFlags := 25, slot := 9, constantValue := 0 }, { name := "LOG2_BYTE_BIT_SIZE", type := .int, accessFlags := 26, slot := 10, constantValue := 0 }, { name := "T_BOOLEAN", type := .int, accessFlags := 25, slot := 11, constantValue := 0 }, { name := "T_CHAR", type := .int, accessFlags := 25, slot := 12, constantValue := 0 }, { name := "T_FLOAT", type := .int, accessFlags := 25, slot := 13, constantValue := 0 }, { name := "T_DOUBLE", type := .int, accessFlags := 25, slot := 14, constantValue := 0 }, { name := "T_BYTE", type := .int, accessFlags := 25, slot := 15, constantValue := 0 }, { name := "T_SHORT", type := .int, accessFlags := 25, slot := 16, constantValue := 0 }, { name := "T_INT", type := .int, accessFlags := 25, slot := 17, constantValue := 0 }, { name := "T_LONG", type := .int, accessFlags := 25, slot := 18, constantValue := 0 }, { name := "JLA", type := (.object "jdk/internal/access/JavaLangAccess"), accessFlags := 26, slot := 19, constantValue := 0 }, { name := "SOFT_MAX_ARRAY_LENGTH", type := .int, accessFlags := 25, slot := 20, constantValue := 0 }]
  methods := #[k12m0]
  instanceTypes := #[]
  staticTypes := #[(.object "jdk/internal/misc/Unsafe"), .boolean, .int, .int, .int, .int, .int, .int, .int, .int, .int, .int, .int, .int, .int, .int, .int, .int, .int, (.object "jdk/internal/access/JavaLangAccess"), .int]
  resolved := Array.replicate 378 none
  statics := none }

def pool13 : Array CpInfo := pool [(1, u "java/lang/Cloneable"), (0, .class_ 1), (0, u "java/lang/Object"), (0, .class_ 3)] 3

/-- java/lang/Cloneable -/
def k13 : Class := { plain "java/lang/Cloneable" (some 0) with
  accessFlags := 1537
  interfaces := #[]
  cf := some (fileOf pool13 2 #[] #[] 1537 4 #[] #[])
  fields := #[]
  methods := #[]
  instanceTypes := #[]
  staticTypes := #[]
  resolved := Array.replicate 8 none
  statics := none }

/-- the primitive byte -/
def k14 : Class := { plain "byte" none with kind := .primitive 'B', accessFlags := 0x411 }
/-- [B -/
def k15 : Class := { plain "[B" (some 0) with kind := .array 14 .byte, interfaces := #[13, 4], accessFlags := 1041 }

/-- the primitive int -/
def k16 : Class := { plain "int" none with kind := .primitive 'I', accessFlags := 0x411 }
/-- [I -/
def k17 : Class := { plain "[I" (some 0) with kind := .array 16 .int, interfaces := #[13, 4], accessFlags := 1041 }

def heap : Heap := #[{ cls := 6, slots := #[.ref 11, .ref 12, .ref 13, .ref 14, .ref 15, .null], vm := .statics 6 },
  { cls := 9, slots := #[.long 0, .int 1, .null, .int 0, .null, .int 0, .int 0], vm := .statics 9 },
  { cls := 11, slots := #[.null, .null, .null], vm := .statics 11 },
  { cls := 15, slots := #[], vm := .none },
  { cls := 15, slots := #[.int 60], vm := .none },
  { cls := 15, slots := #[.int 62], vm := .none },
  { cls := 15, slots := #[.int 62, .int 61], vm := .none },
  { cls := 9, slots := #[.ref 3, .int 0, .int 0, .int 0], vm := .none },
  { cls := 9, slots := #[.ref 4, .int 0, .int 0, .int 0], vm := .none },
  { cls := 9, slots := #[.ref 5, .int 0, .int 0, .int 0], vm := .none },
  { cls := 9, slots := #[.ref 6, .int 0, .int 0, .int 0], vm := .none },
  { cls := 6, slots := #[.null, .int 0, .int 0, .ref 7], vm := .none },
  { cls := 6, slots := #[.null, .int 1, .int 0, .ref 7], vm := .none },
  { cls := 6, slots := #[.null, .int 2, .int 0, .ref 8], vm := .none },
  { cls := 6, slots := #[.null, .int 3, .int 0, .ref 9], vm := .none },
  { cls := 6, slots := #[.null, .int 4, .int 0, .ref 10], vm := .none }]
def classes : Array Class := #[k0, k1, k2, k3, k4, k5, k6, k7, k8, k9, k10, k11, k12, k13, k14, k15, k16, k17]
def interned : List (Array UInt16 × Addr) := []
def slotsUsed : Nat := 56
def theMethod : MethodId := ⟨1, 2⟩
def args0 : Array Value := #[.int 5]
def aboutOver (below : List Frame) : State where
  vm := { classes := classes, interned := interned.toArray }
  heap := heap
  slotsUsed := slotsUsed
  threads := #[{ frames := .invoking theMethod args0 :: below }]
def below0 : List Frame := [.native { method := ⟨0, 0⟩, args := #[] }]
def about1 : State := aboutOver below0
def p0 : Program := .bare "" "" ""
def e0 : Env := launch0.env 0 0 0
theorem w_frames : about1.frames = Frame.invoking theMethod args0 :: below0 := rfl
set_option maxRecDepth 65536 in
theorem w_args : argsFit about1.vm theMethod args0 = true := by decide +kernel
set_option maxRecDepth 65536 in
theorem w_heap : heapFits about1 = true := by decide +kernel
set_option maxRecDepth 65536 in
theorem w_runnable : about1.curStatus? = some .runnable := by decide +kernel
set_option maxRecDepth 65536 in
theorem w_alone : about1.alone = true := by decide +kernel
set_option maxRecDepth 65536 in
theorem w_named : about1.methodNamed? x = some theMethod := by decide +kernel
set_option maxRecDepth 65536 in
theorem w_hears : about1.hears theMethod below0 = true := by decide +kernel
set_option maxRecDepth 65536 in
theorem w_ripe : about1.ripe theMethod args0 below0 = true := by decide +kernel
theorem w_running : about1.status = .running := rfl
set_option maxRecDepth 65536 in
theorem w_room : about1.hasRoom e0.platform room_1 = true :=
  launch0.hasRoom_least _ room_1 (by decide +kernel) (by decide +kernel) (by decide +kernel) (by decide +kernel) (by decide +kernel) (by decide +kernel)
theorem allAtoms_all (ts : List Jvm.Cond) (a : Array Jvm.Value) (st : Jvm.State) : (allAtoms ts).before a st = ts.all (fun c => c.before a st) := by
  induction ts with
  | nil => rfl
  | cons c t ih =>
    show (Jvm.Cond.and c (allAtoms t)).before a st = _
    rw [Jvm.Cond.before_and, ih, List.all_cons]
def words1 : List Jvm.Cond := Jvm.Cond.code x code maxLocals ret :: tables_1
/-- a 'code' word, met by the world's own term for the bytes: nothing is compared byte by byte -/
theorem code_word {y : MethodName} {bytes : ByteArray} {mx : Nat} {rt : Option FieldType} {a : Array Value} {s : State} {m : MethodId} {meth : Method} {c : Code} (h1 : s.methodNamed? y = some m) (h2 : s.vm.method? m = some meth) (h3 : meth.code = some c) (h4 : c.code = bytes)
    (h5 : (c.maxLocals == mx && c.exceptionTable.isEmpty && decide (c.maxStack ≤ mostOperands) && decide (meth.sig.returnType = rt) && !meth.locks && decide (parseMethodDescriptor y.desc = some meth.sig)) = true) : (Jvm.Cond.code y bytes mx rt).before a s = true := by
  simp only [Bool.and_eq_true, beq_iff_eq, Bool.not_eq_true', decide_eq_true_eq] at h5
  obtain ⟨⟨⟨⟨⟨g1, g2⟩, g3⟩, g4⟩, g5⟩, g6⟩ := h5
  simp [Cond.before, Cond.holds, Cond.value, h1, h2, h3, h4, g1, g2, g3, g4, g5, g6]
def isCode : Jvm.Cond → Bool
  | .code _ _ _ _ => true
  | _ => false
theorem all_split {L : List Jvm.Cond} {P : Jvm.Cond → Bool} (h1 : L.all (fun c => isCode c || P c) = true) (h2 : ∀ c ∈ L.filter isCode, P c = true) : L.all P = true := by
  refine List.all_eq_true.mpr fun c hc => ?_
  have h := List.all_eq_true.mp h1 c hc
  rcases Bool.eq_false_or_eq_true (isCode c) with hi | hi
  · exact h2 c (List.mem_filter.mpr ⟨hc, hi⟩)
  · simpa [hi] using h
set_option maxRecDepth 65536 in
theorem w_c0 : (Jvm.Cond.code x code maxLocals ret).before args0 about1 = true := code_word (m := ⟨1, 2⟩) (meth := k1m2) (c := k1c2) (by decide +kernel) rfl rfl rfl (by decide +kernel)
set_option maxRecDepth 65536 in
theorem w_c1 : (Jvm.Cond.code ({ cls := "com/example/chop/chop/compiler/MarkIsWaitingPinLaw", name := "pick", desc := "(I)Lcom/example/chop/chop/compiler/Mark;" } : Jvm.MethodName) method_2_code (1 : Nat) (Option.some (Jvm.ClassFile.FieldType.object "com/example/chop/chop/compiler/Mark"))).before args0 about1 = true := code_word (m := ⟨1, 1⟩) (meth := k1m1) (c := k1c1) (by decide +kernel) rfl rfl rfl (by decide +kernel)
set_option maxRecDepth 65536 in
theorem w_c2 : (Jvm.Cond.code ({ cls := "com/example/chop/chop/compiler/Mark", name := "isWaiting", desc := "()Z" } : Jvm.MethodName) prog_1_method_6_code (1 : Nat) (Option.some Jvm.ClassFile.FieldType.boolean)).before args0 about1 = true := code_word (m := ⟨6, 2⟩) (meth := k6m2) (c := k6c2) (by decide +kernel) rfl rfl rfl (by decide +kernel)
set_option maxRecDepth 65536 in
theorem w_c3 : (Jvm.Cond.code ({ cls := "com/example/chop/chop/compiler/Mark", name := "flag", desc := "()Ljava/lang/String;" } : Jvm.MethodName) prog_1_method_4_code (1 : Nat) (Option.some (Jvm.ClassFile.FieldType.object "java/lang/String"))).before args0 about1 = true := code_word (m := ⟨6, 0⟩) (meth := k6m0) (c := k6c0) (by decide +kernel) rfl rfl rfl (by decide +kernel)
set_option maxRecDepth 65536 in
theorem w_c4 : (Jvm.Cond.code ({ cls := "java/lang/String", name := "isEmpty", desc := "()Z" } : Jvm.MethodName) jdk_42_method_55_code (1 : Nat) (Option.some Jvm.ClassFile.FieldType.boolean)).before args0 about1 = true := code_word (m := ⟨9, 1⟩) (meth := k9m1) (c := k9c1) (by decide +kernel) rfl rfl rfl (by decide +kernel)
set_option maxRecDepth 65536 in
theorem w_c5 : (Jvm.Cond.code ({ cls := "java/lang/String", name := "charAt", desc := "(I)C" } : Jvm.MethodName) jdk_42_method_56_code (2 : Nat) (Option.some Jvm.ClassFile.FieldType.char)).before args0 about1 = true := code_word (m := ⟨9, 2⟩) (meth := k9m2) (c := k9c2) (by decide +kernel) rfl rfl rfl (by decide +kernel)
set_option maxRecDepth 65536 in
theorem w_c6 : (Jvm.Cond.code ({ cls := "java/lang/String", name := "isLatin1", desc := "()Z" } : Jvm.MethodName) jdk_42_method_154_code (1 : Nat) (Option.some Jvm.ClassFile.FieldType.boolean)).before args0 about1 = true := code_word (m := ⟨9, 3⟩) (meth := k9m3) (c := k9c3) (by decide +kernel) rfl rfl rfl (by decide +kernel)
set_option maxRecDepth 65536 in
theorem w_c7 : (Jvm.Cond.code ({ cls := "java/lang/StringLatin1", name := "charAt", desc := "([BI)C" } : Jvm.MethodName) jdk_43_method_2_code (2 : Nat) (Option.some Jvm.ClassFile.FieldType.char)).before args0 about1 = true := code_word (m := ⟨10, 1⟩) (meth := k10m1) (c := k10c1) (by decide +kernel) rfl rfl rfl (by decide +kernel)
set_option maxRecDepth 65536 in
theorem w_c8 : (Jvm.Cond.code ({ cls := "java/lang/String", name := "checkIndex", desc := "(II)V" } : Jvm.MethodName) jdk_42_method_155_code (2 : Nat) (Option.none : Option Jvm.ClassFile.FieldType)).before args0 about1 = true := code_word (m := ⟨9, 4⟩) (meth := k9m4) (c := k9c4) (by decide +kernel) rfl rfl rfl (by decide +kernel)
set_option maxRecDepth 65536 in
theorem w_c9 : (Jvm.Cond.code ({ cls := "jdk/internal/util/Preconditions", name := "checkIndex", desc := "(IILjava/util/function/BiFunction;)I" } : Jvm.MethodName) jdk_41_method_11_code (3 : Nat) (Option.some Jvm.ClassFile.FieldType.int)).before args0 about1 = true := code_word (m := ⟨11, 1⟩) (meth := k11m1) (c := k11c1) (by decide +kernel) rfl rfl rfl (by decide +kernel)
set_option maxRecDepth 65536 in
theorem w_c10 : (Jvm.Cond.code ({ cls := "com/example/chop/chop/compiler/Mark", name := "isActive", desc := "()Z" } : Jvm.MethodName) prog_1_method_5_code (1 : Nat) (Option.some Jvm.ClassFile.FieldType.boolean)).before args0 about1 = true := code_word (m := ⟨6, 1⟩) (meth := k6m1) (c := k6c1) (by decide +kernel) rfl rfl rfl (by decide +kernel)
def codes1 : List Jvm.Cond := [Jvm.Cond.code x code maxLocals ret, Jvm.Cond.code ({ cls := "com/example/chop/chop/compiler/MarkIsWaitingPinLaw", name := "pick", desc := "(I)Lcom/example/chop/chop/compiler/Mark;" } : Jvm.MethodName) method_2_code (1 : Nat) (Option.some (Jvm.ClassFile.FieldType.object "com/example/chop/chop/compiler/Mark")), Jvm.Cond.code ({ cls := "com/example/chop/chop/compiler/Mark", name := "isWaiting", desc := "()Z" } : Jvm.MethodName) prog_1_method_6_code (1 : Nat) (Option.some Jvm.ClassFile.FieldType.boolean), Jvm.Cond.code ({ cls := "com/example/chop/chop/compiler/Mark", name := "flag", desc := "()Ljava/lang/String;" } : Jvm.MethodName) prog_1_method_4_code (1 : Nat) (Option.some (Jvm.ClassFile.FieldType.object "java/lang/String")), Jvm.Cond.code ({ cls := "java/lang/String", name := "isEmpty", desc := "()Z" } : Jvm.MethodName) jdk_42_method_55_code (1 : Nat) (Option.some Jvm.ClassFile.FieldType.boolean), Jvm.Cond.code ({ cls := "java/lang/String", name := "charAt", desc := "(I)C" } : Jvm.MethodName) jdk_42_method_56_code (2 : Nat) (Option.some Jvm.ClassFile.FieldType.char), Jvm.Cond.code ({ cls := "java/lang/String", name := "isLatin1", desc := "()Z" } : Jvm.MethodName) jdk_42_method_154_code (1 : Nat) (Option.some Jvm.ClassFile.FieldType.boolean), Jvm.Cond.code ({ cls := "java/lang/StringLatin1", name := "charAt", desc := "([BI)C" } : Jvm.MethodName) jdk_43_method_2_code (2 : Nat) (Option.some Jvm.ClassFile.FieldType.char), Jvm.Cond.code ({ cls := "java/lang/String", name := "checkIndex", desc := "(II)V" } : Jvm.MethodName) jdk_42_method_155_code (2 : Nat) (Option.none : Option Jvm.ClassFile.FieldType), Jvm.Cond.code ({ cls := "jdk/internal/util/Preconditions", name := "checkIndex", desc := "(IILjava/util/function/BiFunction;)I" } : Jvm.MethodName) jdk_41_method_11_code (3 : Nat) (Option.some Jvm.ClassFile.FieldType.int), Jvm.Cond.code ({ cls := "com/example/chop/chop/compiler/Mark", name := "isActive", desc := "()Z" } : Jvm.MethodName) prog_1_method_5_code (1 : Nat) (Option.some Jvm.ClassFile.FieldType.boolean)]
set_option maxRecDepth 65536 in
theorem codes_eq : words1.filter isCode = codes1 := rfl
theorem w_codes : ∀ c ∈ words1.filter isCode, c.before args0 about1 = true := by
  rw [codes_eq]
  intro c hc
  simp only [codes1, List.mem_cons, List.not_mem_nil, or_false] at hc
  rcases hc with rfl | rfl | rfl | rfl | rfl | rfl | rfl | rfl | rfl | rfl | rfl
  · exact w_c0
  · exact w_c1
  · exact w_c2
  · exact w_c3
  · exact w_c4
  · exact w_c5
  · exact w_c6
  · exact w_c7
  · exact w_c8
  · exact w_c9
  · exact w_c10
set_option maxRecDepth 65536 in
theorem w_t1 : (words1.take 24).all (fun c => isCode c || c.before args0 about1) = true := by decide +kernel
set_option maxRecDepth 65536 in
theorem w_t2 : ((words1.drop 24).take 24).all (fun c => isCode c || c.before args0 about1) = true := by decide +kernel
set_option maxRecDepth 65536 in
theorem w_t3 : ((words1.drop 24).drop 24).all (fun c => isCode c || c.before args0 about1) = true := by decide +kernel
theorem w_tables : (allAtoms (Jvm.Cond.code x code maxLocals ret :: tables_1)).before args0 about1 = true := by
  rw [allAtoms_all]
  show words1.all (fun c => c.before args0 about1) = true
  refine all_split ?_ w_codes
  rw [← List.take_append_drop 24 words1, List.all_append, w_t1, ← List.take_append_drop 24 (words1.drop 24), List.all_append, w_t2, w_t3]
  rfl
set_option maxRecDepth 65536 in
theorem w_rest : rest_1_c.before args0 about1 = true := by decide +kernel
set_option maxRecDepth 65536 in
theorem w_case : (Jvm.Cond.and given_1 narrow_1).before args0 about1 = true := by decide +kernel
theorem w_applies : (headSpec (Jvm.Cond.code x code maxLocals ret :: tables_1) room_1).applies x e0.platform about1 = true :=
  (Spec.applies_iff w_frames).mpr ⟨w_running, w_runnable, w_alone, w_named, w_hears, w_ripe, w_room, w_tables⟩
theorem atStart : AtStart classFile x code maxLocals ret World_1 tables_1 room_1 Calls_1 rest_1 Pre_1 launch0 p0 e0 about1 theMethod args0 below0 :=
  ⟨lists_1, trivial, launch0.admits_env _ _ _, launch0.least_env, fairChoices_fair.cas, fairChoices_fair.clock, w_frames, w_args, w_heap, w_applies, trivial, w_rest, w_case⟩
end start1
theorem witness_1 : WitnessClaimed_1 := ⟨start1.p0, start1.e0, start1.about1, start1.theMethod, start1.args0, start1.below0, start1.atStart⟩
end Jvm.Pilot.@@N@@
