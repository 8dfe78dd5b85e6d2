import JvmDerived
import JvmDerived.Pilot.@@N@@Statement
import JvmDerived.Pilot.@@N@@Code
set_option linter.unusedVariables false
set_option linter.unusedSimpArgs false
namespace Jvm.RoadKit
open Sem ClassFile Op Lib Jvm.Stand Jvm.Free Jvm.LawKit
section New
variable {p : Program} {l : Launch} {e : Env} {R : Room} {s : State} {m : MethodId} {args : Array Value} {below : List Frame} {meth : Method} {c : Code} {T : State} {locs : List Loc} {cells slots : Nat}
theorem retI (X : Stand p l e R s m args below meth c T locs cells slots) (hx : p.tables.exec = Jvm.exec) {pc : Nat} {Ls : Array Slot} {z : Int32} {rest : List Value} (hret : meth.sig.returnType = some .int) (hd : decode c.code pc = .ok (.ireturn, 1)) {fs : List Frame}
    (hl : ∀ (f : JFrame) (acts : List Action), f.method = m → f.locked = none → f.entered = [] → (doReturn e (T.setTop f) acts (some (.int z))).1 = T.setFrames fs) : Steps p.tables e below (T.setTop (mkF m pc Ls (.int z :: rest))) (T.setFrames fs) :=
  retOut X hx hret rfl (Or.inl ⟨rfl, Or.inl rfl, z, rfl⟩) hd hl
end New
end Jvm.RoadKit
namespace Jvm.Pilot.@@N@@
open Jvm Jvm.ClassFile Sem Op Lib Jvm.Free Jvm.Stand Jvm.LawKit Jvm.RoadKit Bundle Jvm.Pilot.@@N@@.Jvm.D
theorem own_selpriv {s : State} {args : Array Value} {y : MethodName} {n : Nat} (hins : (Jvm.Cond.instantiable y.cls n).before args s = true) (hpriv : (Jvm.Cond.privateMethod y).before args s = true) (hinst : (Jvm.Cond.instanceMethod y).before args s = true) (hy : y.cls ≠ "java/lang/invoke/MethodHandle" ∧ y.cls ≠ "java/lang/invoke/VarHandle") :
    (Jvm.Cond.selects y.cls y y).before args s = true := by
  obtain ⟨c, k, hc, hk, -, hniab, -, -⟩ := Cond.instantiable_spec hins
  have hni : k.isInterface = false := (Bool.or_eq_false_iff.mp hniab).1
  obtain ⟨mk, methM, hnamed, hmethM, -, -⟩ := Cond.instanceMethod_spec hinst
  have hfound : s.methodFound? y.cls y.name y.desc = some mk := State.methodFound?_of_named hnamed hy
  have hcls : mk.cls = c := Option.some.inj ((findClass_of_methodNamed hnamed).symm.trans hc)
  have hsel : selectMethod {} s.vm c mk = .method mk := selectMethod_private hmethM (Cond.privateMethod_at hpriv mk methM hnamed hmethM)
  simp only [Cond.before, Cond.holds, Cond.value, hc, hfound, hnamed, hsel, hcls, hk]
  simp; exact hni
theorem own_nsE {Z : State} {h : Heap} {a : Addr} {C : String} (F : Exa Z h a C) : ∀ c : Cell, h[a]? = some c → c.vm.isStatics = false := by
  obtain ⟨c, k, h1, -, -, h4, -⟩ := F
  intro c' hc; cases h1.symm.trans hc; exact h4
theorem own_nsV {Z : State} {h : Heap} {a : Addr} {k : ClassId} {ty : FieldType} {z : Int32} {vs : List Value} {dv : Value} (F : Arv Z h a k ty z vs dv) : ∀ c : Cell, h[a]? = some c → c.vm.isStatics = false := by
  obtain ⟨c, A, -⟩ := F
  intro c' hc; cases A.1.symm.trans hc; exact A.plain
theorem own_stakeep {Z : State} {h h' : Heap} {C n d : String} {v : Value} {ws : List Addr} (F : Sta Z h C n d v) (K : Keep h h' ws) (q : ∀ x ∈ ws, ∀ c : Cell, h[x]? = some c → c.vm.isStatics = false) : Sta Z h' C n d v := by
  obtain ⟨cf, i, k, f, st, cell, h1, h2, h3, h4, h5, h6, h7⟩ := F
  refine ⟨cf, i, k, f, st, cell, h1, h2, h3, h4, K.2.1 _ _ h5 (fun hm => ?_), h6, h7⟩
  rw [q st hm cell h5] at h6; cases h6
theorem own_ex {args : Array Value} {s : State} {t : Term} {C : String} (h : (Jvm.Cond.exactly t C).value args s none s [] = some true) : ∃ a, t.eval args s none [] s = some (.ref a) ∧ Exa s s.heap a C := by
  obtain ⟨a, e1⟩ := exa_v h; exact ⟨a, e1, Exa.start e1 h⟩
theorem own_evI {args : Array Value} {s : State} {t : Term} {z : Int32} (h : (Jvm.Cond.eq t (.int z)).value args s none s [] = some true) : t.eval args s none [] s = some (.int z) := by
  cases hv : t.eval args s none [] s with
  | none => simp [Cond.value, hv] at h
  | some x => cases x <;> simp [Cond.value, Term.eval, hv] at h ⊢; exact h
theorem own_evJ {args : Array Value} {s : State} {t : Term} {z : Int64} (h : (Jvm.Cond.eq t (.long z)).value args s none s [] = some true) : t.eval args s none [] s = some (.long z) := by
  cases hv : t.eval args s none [] s with
  | none => simp [Cond.value, hv] at h
  | some x => cases x <;> simp [Cond.value, Term.eval, hv] at h ⊢; exact h
theorem own_fldV {args : Array Value} {s : State} {t : Term} {a : Addr} {C n d : String} {v : Value} (ev : t.eval args s none [] s = some (.ref a)) (h : (Term.field t C n d).eval args s none [] s = some v) : Fld s s.heap a C n d v := by
  refine Fld.start ?_
  rw [← fld_at (args := args) (first := s) (o := none) (idx := []) ev]; exact h
theorem own_lt (a b : Int32) : a < b ↔ a.toInt < b.toInt := Int32.lt_iff_toInt_lt
theorem own_le (a b : Int32) : a ≤ b ↔ a.toInt ≤ b.toInt := Int32.le_iff_toInt_le
theorem own_eqi (a b : Int32) : a = b ↔ a.toInt = b.toInt := Int32.toInt_inj.symm
theorem own_ltL (a b : Int64) : a < b ↔ a.toInt < b.toInt := Int64.lt_iff_toInt_lt
theorem own_eqL (a b : Int64) : a = b ↔ a.toInt = b.toInt := Int64.toInt_inj.symm
theorem own_evR {args : Array Value} {s : State} {t u : Term} {a : Addr} (h : (Jvm.Cond.eq t u).value args s none s [] = some true) (hu : u.eval args s none [] s = some (.ref a)) : t.eval args s none [] s = some (.ref a) := by
  cases hv : t.eval args s none [] s with
  | none => simp [Cond.value, hv] at h
  | some x => cases x <;> simp [Cond.value, hu, hv] at h ⊢; exact h
theorem own_len {args : Array Value} {s : State} {t : Term} {a : Addr} {cl : Cell} {z : Int32} (ev : t.eval args s none [] s = some (.ref a)) (hc : s.arrayAt? a = some cl) (h : (Term.length t).eval args s none [] s = some (.int z)) : cl.slots.size < 2 ^ 31 ∧ cl.slots.size.toInt32 = z := by
  by_cases q : cl.slots.size < 2147483648
  · simp [Term.eval, ev, hc, q] at h; exact ⟨q, h⟩
  · simp [Term.eval, ev, hc, q] at h
theorem pn_0 : plainName "com/example/batchrake/batchrake/Inode" = true := by first | (simp [plainName, overriddenIn]; done) | decide +kernel
theorem d1_0 : decode prog_4_method_1_code 0 = .ok (.aload_n 0, 1) := by decide +kernel
theorem d1_1 : decode prog_4_method_1_code 1 = .ok (.invokespecial 1, 3) := by decide +kernel
theorem d1_4 : decode prog_4_method_1_code 4 = .ok (.aload_n 0, 1) := by decide +kernel
theorem d1_5 : decode prog_4_method_1_code 5 = .ok (.lload_n 1, 1) := by decide +kernel
theorem d1_6 : decode prog_4_method_1_code 6 = .ok (.putfield 7, 3) := by decide +kernel
theorem d1_9 : decode prog_4_method_1_code 9 = .ok (.aload_n 0, 1) := by decide +kernel
theorem d1_10 : decode prog_4_method_1_code 10 = .ok (.lload_n 3, 1) := by decide +kernel
theorem d1_11 : decode prog_4_method_1_code 11 = .ok (.putfield 13, 3) := by decide +kernel
theorem d1_14 : decode prog_4_method_1_code 14 = .ok (.aload_n 0, 1) := by decide +kernel
theorem d1_15 : decode prog_4_method_1_code 15 = .ok (.iload 5, 2) := by decide +kernel
theorem d1_17 : decode prog_4_method_1_code 17 = .ok (.putfield 16, 3) := by decide +kernel
theorem d1_20 : decode prog_4_method_1_code 20 = .ok (.return_, 1) := by decide +kernel
theorem ef_1 (m : MethodId) (a1_0 : Addr) (q1_1 : Int64) (q1_2 : Int64) (p1_3 : Int32) : entryFrame m #[(.ref a1_0), (.long q1_1), (.long q1_2), (.int p1_3)] 6 = mkF m 0 #[.val (.ref a1_0), .val (.long q1_1), .second, .val (.long q1_2), .second, .val (.int p1_3)] [] := by first | (simp [entryFrame, mkF, argsToLocals, Value.category]; done) | rfl
def Q1 (Z : State) (a1_0 : Addr) (q1_1 : Int64) (q1_2 : Int64) (p1_3 : Int32) (h0 : Heap) (n0 : Nat) (v : Option Value) (h : Heap) (L : List Loc) : Prop := v = none ∧ Fr n0 L ∧ Keep h0 h [a1_0] ∧ Exa Z h a1_0 "com/example/batchrake/batchrake/Inode" ∧ Fld Z h a1_0 "com/example/batchrake/batchrake/Inode" "device" "J" (.long q1_1) ∧ Fld Z h a1_0 "com/example/batchrake/batchrake/Inode" "number" "J" (.long q1_2)
set_option maxRecDepth 65536 in
set_option maxHeartbeats 40000000 in
theorem rm1 (l : Launch) (Z : State) (a0 : Array Value) (hw : ∀ d ∈ tables_1, d.before a0 Z = true) (ws : List Jvm.Cond) (a1_0 : Addr) (q1_1 : Int64) (q1_2 : Int64) (p1_3 : Int32) (h0 : Heap) (n0 : Nat) (Z0 : n0 ≤ h0.size) (Ea : Exa Z h0 a1_0 "com/example/batchrake/batchrake/Inode") (Fd : Fld Z h0 a1_0 "com/example/batchrake/batchrake/Inode" "device" "J" (.long (0 : Int64))) (Fn : Fld Z h0 a1_0 "com/example/batchrake/batchrake/Inode" "number" "J" (.long (0 : Int64))) (Fi : Fld Z h0 a1_0 "com/example/batchrake/batchrake/Inode" "directory" "Z" (.int (0 : Int32))) (g_a1_0 : n0 ≤ a1_0) :
    MetFree l (⟨"com/example/batchrake/batchrake/Inode", "<init>", "(JJZ)V"⟩ : MethodName) (head1 (Jvm.Cond.code (⟨"com/example/batchrake/batchrake/Inode", "<init>", "(JJZ)V"⟩ : MethodName) prog_4_method_1_code 6 none :: ws) ({ frames := 1, cells := 0, slots := 0, locals := 12 } : Room)) (fun a U => a = #[(.ref a1_0), (.long q1_1), (.long q1_2), (.int p1_3)] ∧ Z.Warmed39 U.vm ∧ U.heap = h0) (fun _ _ _ _ _ => True) (fun _ U o U' => ∃ v L, o = .returned v ∧ Q1 Z a1_0 q1_1 q1_2 p1_3 h0 n0 v U'.heap L ∧ FrameEnd U o U' L ({ frames := 1, cells := 0, slots := 0, locals := 12 } : Room).cells ({ frames := 1, cells := 0, slots := 0, locals := 12 } : Room).slots) := by
  refine MetFree.of_bodySF (plainFor_of_name pn_0) hisR ?_
  intro p e s m args below meth c s₁ Bd hml0 hP hK
  obtain ⟨rfl, hZ, hh⟩ := hP
  have hx := Bd.exec
  have hby := Bd.bytes
  have hml : c.maxLocals = 6 := hml0
  have hown : s.vm.findClass "com/example/batchrake/batchrake/Inode" = some m.cls := findClass_of_methodNamed Bd.named
  have hnm := (name_of_methodNamed Bd.named Bd.method).1
  have X0 : Stand p l e ({ frames := 1, cells := 0, slots := 0, locals := 12 } : Room) s m #[(.ref a1_0), (.long q1_1), (.long q1_2), (.int p1_3)] below meth c s₁ [] 0 0 := Stand.of_body Bd
  have e0 : s₁.heap = h0 := by rw [← hh, Bd.state]; rfl
  have N0 := Fr.nil n0
  have pre0 : ∀ t, Steps p.tables e below (s₁.setTop (mkF m 0 #[.val (.ref a1_0), .val (.long q1_1), .second, .val (.long q1_2), .second, .val (.int p1_3)] [])) t → Steps p.tables e below (s₁.setTop (entryFrame m #[(.ref a1_0), (.long q1_1), (.long q1_2), (.int p1_3)] 6)) t := fun t k => castTop (ef_1 m a1_0 q1_1 q1_2 p1_3) k
  obtain ⟨T1, X1, e1, st1⟩ := initO X0 hx hZ hown (hw _ (List.mem_of_getElem? (i := 6) rfl)) (hw _ (List.mem_of_getElem? (i := 7) rfl)) (hw _ (List.mem_of_getElem? (i := 8) rfl)) e0 (g := (mkF m 1 #[.val (.ref a1_0), .val (.long q1_1), .second, .val (.long q1_2), .second, .val (.int p1_3)] [(.ref a1_0)])) rfl (by rw [hml]; rfl) rfl (hb hby d1_1) (by decide) (W := 0) (by show 2 * 0 + _ ≤ _; exact Nat.le_of_eq rfl) (by decide)
  obtain ⟨T2, h2, X2, e2, W2, st2⟩ := putF X1 hx hZ hown (host := "") (Or.inl (hw _ (List.mem_of_getElem? (i := 9) rfl))) Via.refl e1 Fd Ea (Or.inr ⟨(hw _ (List.mem_of_getElem? (i := 10) rfl)), rfl, hnm⟩) (hw _ (List.mem_of_getElem? (i := 1) rfl)) (ty := .long) (by decide) rfl rfl (g := (mkF m 6 #[.val (.ref a1_0), .val (.long q1_1), .second, .val (.long q1_2), .second, .val (.int p1_3)] [(.long q1_1), (.ref a1_0)])) rfl rfl (hb hby d1_6)
  have Fw2 : Fld Z h2 a1_0 "com/example/batchrake/batchrake/Inode" "device" "J" (.long q1_1) := Fd.same W2
  have F3 : Exa Z h2 a1_0 "com/example/batchrake/batchrake/Inode" := Ea.wr W2
  have F5 : Fld Z h2 a1_0 "com/example/batchrake/batchrake/Inode" "number" "J" (.long (0 : Int64)) := Fn.other W2 (Or.inr (slot_ne (Or.inr (hw _ (List.mem_of_getElem? (i := 12) rfl))) (Or.inr (hw _ (List.mem_of_getElem? (i := 10) rfl))) (by decide) (t := .long) (t' := .long) (by decide) (by decide)))
  have F6 : Fld Z h2 a1_0 "com/example/batchrake/batchrake/Inode" "directory" "Z" (.int (0 : Int32)) := Fi.other W2 (Or.inr (slot_ne (Or.inr (hw _ (List.mem_of_getElem? (i := 14) rfl))) (Or.inr (hw _ (List.mem_of_getElem? (i := 10) rfl))) (by decide) (t := .boolean) (t' := .long) (by decide) (by decide)))
  have N2 := Fr.snoc X2 N0 g_a1_0
  have K2 : Keep h0 h2 [a1_0] := (Keep.refl h0 [a1_0]).wr W2 (Or.inl (List.mem_of_getElem? (i := 0) rfl))
  have Zs2 : n0 ≤ h2.size := by rw [W2.size]; exact Z0
  obtain ⟨T7, h7, X7, e7, W7, st7⟩ := putF X2 hx hZ hown (host := "") (Or.inl (hw _ (List.mem_of_getElem? (i := 11) rfl))) Via.refl e2 F5 F3 (Or.inr ⟨(hw _ (List.mem_of_getElem? (i := 12) rfl)), rfl, hnm⟩) (hw _ (List.mem_of_getElem? (i := 1) rfl)) (ty := .long) (by decide) rfl rfl (g := (mkF m 11 #[.val (.ref a1_0), .val (.long q1_1), .second, .val (.long q1_2), .second, .val (.int p1_3)] [(.long q1_2), (.ref a1_0)])) rfl rfl (hb hby d1_11)
  have Fw7 : Fld Z h7 a1_0 "com/example/batchrake/batchrake/Inode" "number" "J" (.long q1_2) := F5.same W7
  have F8 : Exa Z h7 a1_0 "com/example/batchrake/batchrake/Inode" := F3.wr W7
  have F10 : Fld Z h7 a1_0 "com/example/batchrake/batchrake/Inode" "directory" "Z" (.int (0 : Int32)) := F6.other W7 (Or.inr (slot_ne (Or.inr (hw _ (List.mem_of_getElem? (i := 14) rfl))) (Or.inr (hw _ (List.mem_of_getElem? (i := 12) rfl))) (by decide) (t := .boolean) (t' := .long) (by decide) (by decide)))
  have F11 : Fld Z h7 a1_0 "com/example/batchrake/batchrake/Inode" "device" "J" (.long q1_1) := Fw2.other W7 (Or.inr (slot_ne (Or.inr (hw _ (List.mem_of_getElem? (i := 10) rfl))) (Or.inr (hw _ (List.mem_of_getElem? (i := 12) rfl))) (by decide) (t := .long) (t' := .long) (by decide) (by decide)))
  have N7 := Fr.snoc X7 N2 g_a1_0
  have K7 : Keep h0 h7 [a1_0] := K2.wr W7 (Or.inl (List.mem_of_getElem? (i := 0) rfl))
  have Zs7 : n0 ≤ h7.size := by rw [W7.size]; exact Zs2
  obtain ⟨T12, h12, X12, e12, W12, st12⟩ := putFN X7 hx hZ hown (hw _ (List.mem_of_getElem? (i := 13) rfl)) Via.refl e7 F10 F8 (Or.inr ⟨(hw _ (List.mem_of_getElem? (i := 14) rfl)), rfl, hnm⟩) (hw _ (List.mem_of_getElem? (i := 1) rfl)) (ty := .boolean) (v' := .int (nar .boolean p1_3)) (by decide) rfl (fits_nar_bool _) (g := (mkF m 17 #[.val (.ref a1_0), .val (.long q1_1), .second, .val (.long q1_2), .second, .val (.int p1_3)] [(.int p1_3), (.ref a1_0)])) rfl rfl (hb hby d1_17)
  have Fw12 : Fld Z h12 a1_0 "com/example/batchrake/batchrake/Inode" "directory" "Z" (.int (nar .boolean p1_3)) := F10.same W12
  have F13 : Exa Z h12 a1_0 "com/example/batchrake/batchrake/Inode" := F8.wr W12
  have F15 : Fld Z h12 a1_0 "com/example/batchrake/batchrake/Inode" "device" "J" (.long q1_1) := F11.other W12 (Or.inr (slot_ne (Or.inr (hw _ (List.mem_of_getElem? (i := 10) rfl))) (Or.inr (hw _ (List.mem_of_getElem? (i := 14) rfl))) (by decide) (t := .long) (t' := .boolean) (by decide) (by decide)))
  have F16 : Fld Z h12 a1_0 "com/example/batchrake/batchrake/Inode" "number" "J" (.long q1_2) := Fw7.other W12 (Or.inr (slot_ne (Or.inr (hw _ (List.mem_of_getElem? (i := 12) rfl))) (Or.inr (hw _ (List.mem_of_getElem? (i := 14) rfl))) (by decide) (t := .long) (t' := .boolean) (by decide) (by decide)))
  have N12 := Fr.snoc X12 N7 g_a1_0
  have K12 : Keep h0 h12 [a1_0] := K7.wr W12 (Or.inl (List.mem_of_getElem? (i := 0) rfl))
  have Zs12 : n0 ≤ h12.size := by rw [W12.size]; exact Zs7
  have k17 : ∀ t, Steps p.tables e below (T12.setTop (mkF m 20 #[.val (.ref a1_0), .val (.long q1_1), .second, .val (.long q1_2), .second, .val (.int p1_3)] [])) t → Steps p.tables e below (s₁.setTop (entryFrame m #[(.ref a1_0), (.long q1_1), (.long q1_2), (.int p1_3)] 6)) t := by
    intro t k
    refine pre0 t ?_
    show Steps p.tables e below (s₁.setTop (mkF m 0 #[.val (.ref a1_0), .val (.long q1_1), .second, .val (.long q1_2), .second, .val (.int p1_3)] [])) _
    refine XS.aloadN X0.here hx rfl (hb hby d1_0) rfl rfl ?_
    show Steps p.tables e below (s₁.setTop (mkF m 1 #[.val (.ref a1_0), .val (.long q1_1), .second, .val (.long q1_2), .second, .val (.int p1_3)] [(.ref a1_0)])) _
    refine st1 _ ?_
    show Steps p.tables e below (T1.setTop (mkF m 4 #[.val (.ref a1_0), .val (.long q1_1), .second, .val (.long q1_2), .second, .val (.int p1_3)] [])) _
    refine XS.aloadN X1.here hx rfl (hb hby d1_4) rfl rfl ?_
    show Steps p.tables e below (T1.setTop (mkF m 5 #[.val (.ref a1_0), .val (.long q1_1), .second, .val (.long q1_2), .second, .val (.int p1_3)] [(.ref a1_0)])) _
    refine XS.lloadN X1.here hx rfl (hb hby d1_5) rfl ?_
    show Steps p.tables e below (T1.setTop (mkF m 6 #[.val (.ref a1_0), .val (.long q1_1), .second, .val (.long q1_2), .second, .val (.int p1_3)] [(.long q1_1), (.ref a1_0)])) _
    refine st2 _ ?_
    show Steps p.tables e below (T2.setTop (mkF m 9 #[.val (.ref a1_0), .val (.long q1_1), .second, .val (.long q1_2), .second, .val (.int p1_3)] [])) _
    refine XS.aloadN X2.here hx rfl (hb hby d1_9) rfl rfl ?_
    show Steps p.tables e below (T2.setTop (mkF m 10 #[.val (.ref a1_0), .val (.long q1_1), .second, .val (.long q1_2), .second, .val (.int p1_3)] [(.ref a1_0)])) _
    refine XS.lloadN X2.here hx rfl (hb hby d1_10) rfl ?_
    show Steps p.tables e below (T2.setTop (mkF m 11 #[.val (.ref a1_0), .val (.long q1_1), .second, .val (.long q1_2), .second, .val (.int p1_3)] [(.long q1_2), (.ref a1_0)])) _
    refine st7 _ ?_
    show Steps p.tables e below (T7.setTop (mkF m 14 #[.val (.ref a1_0), .val (.long q1_1), .second, .val (.long q1_2), .second, .val (.int p1_3)] [])) _
    refine XS.aloadN X7.here hx rfl (hb hby d1_14) rfl rfl ?_
    show Steps p.tables e below (T7.setTop (mkF m 15 #[.val (.ref a1_0), .val (.long q1_1), .second, .val (.long q1_2), .second, .val (.int p1_3)] [(.ref a1_0)])) _
    refine XS.iload X7.here hx rfl (hb hby d1_15) rfl ?_
    show Steps p.tables e below (T7.setTop (mkF m 17 #[.val (.ref a1_0), .val (.long q1_1), .second, .val (.long q1_2), .second, .val (.int p1_3)] [(.int p1_3), (.ref a1_0)])) _
    refine st12 _ ?_
    exact k
  obtain ⟨fs, hr, hrun, hended, hW, hsame⟩ := X12.leave (v := none) (fun _ => rfl)
  refine ⟨_, _, k17 _ ?_, hrun, hended, _, _, rfl, ?_, ⟨_, rfl⟩, hW, hsame.mono (by decide) (by decide)⟩
  · exact X12.returnOut hx Bd.returns (hb hby d1_20) hr
  · show Q1 Z a1_0 q1_1 q1_2 p1_3 h0 n0 _ T12.heap _
    rw [e12]
    exact ⟨rfl, N12, K12, F13, F15, F16⟩
theorem d2_0 : decode prog_4_method_3_code 0 = .ok (.aload_n 0, 1) := by decide +kernel
theorem d2_1 : decode prog_4_method_3_code 1 = .ok (.getfield 7, 3) := by decide +kernel
theorem d2_4 : decode prog_4_method_3_code 4 = .ok (.aload_n 1, 1) := by decide +kernel
theorem d2_5 : decode prog_4_method_3_code 5 = .ok (.getfield 7, 3) := by decide +kernel
theorem d2_8 : decode prog_4_method_3_code 8 = .ok (.lcmp, 1) := by decide +kernel
theorem d2_9 : decode prog_4_method_3_code 9 = .ok (.ifCond .ne 19, 3) := by decide +kernel
theorem d2_12 : decode prog_4_method_3_code 12 = .ok (.aload_n 0, 1) := by decide +kernel
theorem d2_13 : decode prog_4_method_3_code 13 = .ok (.getfield 13, 3) := by decide +kernel
theorem d2_16 : decode prog_4_method_3_code 16 = .ok (.aload_n 1, 1) := by decide +kernel
theorem d2_17 : decode prog_4_method_3_code 17 = .ok (.getfield 13, 3) := by decide +kernel
theorem d2_20 : decode prog_4_method_3_code 20 = .ok (.lcmp, 1) := by decide +kernel
theorem d2_21 : decode prog_4_method_3_code 21 = .ok (.ifCond .ne 7, 3) := by decide +kernel
theorem d2_24 : decode prog_4_method_3_code 24 = .ok (.iconst 1, 1) := by decide +kernel
theorem d2_25 : decode prog_4_method_3_code 25 = .ok (.goto 4, 3) := by decide +kernel
theorem d2_28 : decode prog_4_method_3_code 28 = .ok (.iconst 0, 1) := by decide +kernel
theorem d2_29 : decode prog_4_method_3_code 29 = .ok (.ireturn, 1) := by decide +kernel
theorem ef_2 (m : MethodId) (a2_0 : Addr) (a2_1 : Addr) : entryFrame m #[(.ref a2_0), (.ref a2_1)] 2 = mkF m 0 #[.val (.ref a2_0), .val (.ref a2_1)] [] := by first | (simp [entryFrame, mkF, argsToLocals, Value.category]; done) | rfl
def own_same (da : Int64) (na : Int64) (db : Int64) (nb : Int64) : Int32 := (if da = db then (if na = nb then (1 : Int32) else (0 : Int32)) else (0 : Int32))
def Q2 (Z : State) (a2_0 : Addr) (a2_1 : Addr) (da : Int64) (na : Int64) (db : Int64) (nb : Int64) (h0 : Heap) (n0 : Nat) (v : Option Value) (h : Heap) (L : List Loc) : Prop := v = some (.int (own_same da na db nb)) ∧ Fr n0 L ∧ h = h0
set_option maxRecDepth 65536 in
set_option maxHeartbeats 40000000 in
theorem rm2 (l : Launch) (Z : State) (a0 : Array Value) (hw : ∀ d ∈ tables_1, d.before a0 Z = true) (ws : List Jvm.Cond) (a2_0 : Addr) (a2_1 : Addr) (da : Int64) (na : Int64) (db : Int64) (nb : Int64) (h0 : Heap) (n0 : Nat) (Z0 : n0 ≤ h0.size) (F1 : Fld Z h0 a2_0 "com/example/batchrake/batchrake/Inode" "device" "J" (.long da)) (F2 : Fld Z h0 a2_0 "com/example/batchrake/batchrake/Inode" "number" "J" (.long na)) (F3 : Fld Z h0 a2_1 "com/example/batchrake/batchrake/Inode" "device" "J" (.long db)) (F4 : Fld Z h0 a2_1 "com/example/batchrake/batchrake/Inode" "number" "J" (.long nb)) :
    MetFree l (⟨"com/example/batchrake/batchrake/Inode", "isSame", "(Lcom/example/batchrake/batchrake/Inode;)Z"⟩ : MethodName) (head1 (Jvm.Cond.code (⟨"com/example/batchrake/batchrake/Inode", "isSame", "(Lcom/example/batchrake/batchrake/Inode;)Z"⟩ : MethodName) prog_4_method_3_code 2 (some .boolean) :: ws) ({ frames := 0, cells := 0, slots := 0, locals := 0 } : Room)) (fun a U => a = #[(.ref a2_0), (.ref a2_1)] ∧ Z.Warmed39 U.vm ∧ U.heap = h0) (fun _ _ _ _ _ => True) (fun _ U o U' => ∃ v L, o = .returned v ∧ Q2 Z a2_0 a2_1 da na db nb h0 n0 v U'.heap L ∧ FrameEnd U o U' L ({ frames := 0, cells := 0, slots := 0, locals := 0 } : Room).cells ({ frames := 0, cells := 0, slots := 0, locals := 0 } : Room).slots) := by
  refine MetFree.of_bodySF (plainFor_of_name pn_0) hisR ?_
  intro p e s m args below meth c s₁ Bd hml0 hP hK
  obtain ⟨rfl, hZ, hh⟩ := hP
  have hx := Bd.exec
  have hby := Bd.bytes
  have hml : c.maxLocals = 2 := hml0
  have hown : s.vm.findClass "com/example/batchrake/batchrake/Inode" = some m.cls := findClass_of_methodNamed Bd.named
  have hnm := (name_of_methodNamed Bd.named Bd.method).1
  have X0 : Stand p l e ({ frames := 0, cells := 0, slots := 0, locals := 0 } : Room) s m #[(.ref a2_0), (.ref a2_1)] below meth c s₁ [] 0 0 := Stand.of_body Bd
  have e0 : s₁.heap = h0 := by rw [← hh, Bd.state]; rfl
  have N0 := Fr.nil n0
  have pre0 : ∀ t, Steps p.tables e below (s₁.setTop (mkF m 0 #[.val (.ref a2_0), .val (.ref a2_1)] [])) t → Steps p.tables e below (s₁.setTop (entryFrame m #[(.ref a2_0), (.ref a2_1)] 2)) t := fun t k => castTop (ef_2 m a2_0 a2_1) k
  obtain ⟨T1, X1, e1, st1⟩ := getF X0 hx hZ hown (host := "") (Or.inl (hw _ (List.mem_of_getElem? (i := 9) rfl))) Via.refl e0 F1 (g := (mkF m 1 #[.val (.ref a2_0), .val (.ref a2_1)] [(.ref a2_0)])) rfl rfl (hb hby d2_1)
  obtain ⟨T2, X2, e2, st2⟩ := getF X1 hx hZ hown (host := "") (Or.inl (hw _ (List.mem_of_getElem? (i := 9) rfl))) Via.refl e1 F3 (g := (mkF m 5 #[.val (.ref a2_0), .val (.ref a2_1)] [(.ref a2_1), (.long da)])) rfl rfl (hb hby d2_5)
  have k3 : ∀ t, Steps p.tables e below (T2.setTop (mkF m 9 #[.val (.ref a2_0), .val (.ref a2_1)] [(.int (lcmpW da db))])) t → Steps p.tables e below (s₁.setTop (entryFrame m #[(.ref a2_0), (.ref a2_1)] 2)) t := by
    intro t k
    refine pre0 t ?_
    show Steps p.tables e below (s₁.setTop (mkF m 0 #[.val (.ref a2_0), .val (.ref a2_1)] [])) _
    refine XS.aloadN X0.here hx rfl (hb hby d2_0) rfl rfl ?_
    show Steps p.tables e below (s₁.setTop (mkF m 1 #[.val (.ref a2_0), .val (.ref a2_1)] [(.ref a2_0)])) _
    refine st1 _ ?_
    show Steps p.tables e below (T1.setTop (mkF m 4 #[.val (.ref a2_0), .val (.ref a2_1)] [(.long da)])) _
    refine XS.aloadN X1.here hx rfl (hb hby d2_4) rfl rfl ?_
    show Steps p.tables e below (T1.setTop (mkF m 5 #[.val (.ref a2_0), .val (.ref a2_1)] [(.ref a2_1), (.long da)])) _
    refine st2 _ ?_
    show Steps p.tables e below (T2.setTop (mkF m 8 #[.val (.ref a2_0), .val (.ref a2_1)] [(.long db), (.long da)])) _
    refine XS.lcmp X2.here hx rfl (hb hby d2_8) rfl ?_
    exact k
  by_cases hc9_4 : da = db
  · skip
    obtain ⟨T5, X5, e5, st5⟩ := getF X2 hx hZ hown (host := "") (Or.inl (hw _ (List.mem_of_getElem? (i := 11) rfl))) Via.refl e2 F2 (g := (mkF m 13 #[.val (.ref a2_0), .val (.ref a2_1)] [(.ref a2_0)])) rfl rfl (hb hby d2_13)
    obtain ⟨T6, X6, e6, st6⟩ := getF X5 hx hZ hown (host := "") (Or.inl (hw _ (List.mem_of_getElem? (i := 11) rfl))) Via.refl e5 F4 (g := (mkF m 17 #[.val (.ref a2_0), .val (.ref a2_1)] [(.ref a2_1), (.long na)])) rfl rfl (hb hby d2_17)
    have k7 : ∀ t, Steps p.tables e below (T6.setTop (mkF m 21 #[.val (.ref a2_0), .val (.ref a2_1)] [(.int (lcmpW na nb))])) t → Steps p.tables e below (s₁.setTop (entryFrame m #[(.ref a2_0), (.ref a2_1)] 2)) t := by
      intro t k
      refine k3 t ?_
      show Steps p.tables e below (T2.setTop (mkF m 9 #[.val (.ref a2_0), .val (.ref a2_1)] [(.int (lcmpW da db))])) _
      refine XS.ifNo X2.here hx rfl (hb hby d2_9) rfl ((if0 _ _).trans (teq ((lw_eq _ _).mpr hc9_4)).2) ?_
      show Steps p.tables e below (T2.setTop (mkF m 12 #[.val (.ref a2_0), .val (.ref a2_1)] [])) _
      refine XS.aloadN X2.here hx rfl (hb hby d2_12) rfl rfl ?_
      show Steps p.tables e below (T2.setTop (mkF m 13 #[.val (.ref a2_0), .val (.ref a2_1)] [(.ref a2_0)])) _
      refine st5 _ ?_
      show Steps p.tables e below (T5.setTop (mkF m 16 #[.val (.ref a2_0), .val (.ref a2_1)] [(.long na)])) _
      refine XS.aloadN X5.here hx rfl (hb hby d2_16) rfl rfl ?_
      show Steps p.tables e below (T5.setTop (mkF m 17 #[.val (.ref a2_0), .val (.ref a2_1)] [(.ref a2_1), (.long na)])) _
      refine st6 _ ?_
      show Steps p.tables e below (T6.setTop (mkF m 20 #[.val (.ref a2_0), .val (.ref a2_1)] [(.long nb), (.long na)])) _
      refine XS.lcmp X6.here hx rfl (hb hby d2_20) rfl ?_
      exact k
    by_cases hc21_8 : na = nb
    · skip
      have k9 : ∀ t, Steps p.tables e below (T6.setTop (mkF m 29 #[.val (.ref a2_0), .val (.ref a2_1)] [(.int (1 : Int32))])) t → Steps p.tables e below (s₁.setTop (entryFrame m #[(.ref a2_0), (.ref a2_1)] 2)) t := by
        intro t k
        refine k7 t ?_
        show Steps p.tables e below (T6.setTop (mkF m 21 #[.val (.ref a2_0), .val (.ref a2_1)] [(.int (lcmpW na nb))])) _
        refine XS.ifNo X6.here hx rfl (hb hby d2_21) rfl ((if0 _ _).trans (teq ((lw_eq _ _).mpr hc21_8)).2) ?_
        show Steps p.tables e below (T6.setTop (mkF m 24 #[.val (.ref a2_0), .val (.ref a2_1)] [])) _
        refine XS.iconst X6.here hx rfl (hb hby d2_24) ?_
        show Steps p.tables e below (T6.setTop (mkF m 25 #[.val (.ref a2_0), .val (.ref a2_1)] [(.int (1 : Int32))])) _
        refine XS.goto X6.here hx rfl (pc0 := 25) (pc' := 29) rfl (hb hby d2_25) (by decide) (by decide) ?_
        exact k
      obtain ⟨fs, hr, hrun, hended, hW, hsame⟩ := X6.leave (v := some (.int (1 : Int32))) (fun h => by rw [Bd.returns] at h; cases h)
      refine ⟨_, _, k9 _ ?_, hrun, hended, _, _, rfl, ?_, ⟨_, rfl⟩, hW, hsame.mono (by decide) (by decide)⟩
      · exact retN X6 hx (t := .boolean) Bd.returns (by simp) (hb hby d2_29) hr
      · show Q2 Z a2_0 a2_1 da na db nb h0 n0 _ T6.heap _
        rw [e6]
        exact ⟨congrArg (fun z => some (Value.int z)) (show ((1 : Int32) : Int32) = own_same da na db nb from by unfold own_same; rw [if_pos hc9_4, if_pos hc21_8]), N0, rfl⟩
    · skip
      have k10 : ∀ t, Steps p.tables e below (T6.setTop (mkF m 29 #[.val (.ref a2_0), .val (.ref a2_1)] [(.int (0 : Int32))])) t → Steps p.tables e below (s₁.setTop (entryFrame m #[(.ref a2_0), (.ref a2_1)] 2)) t := by
        intro t k
        refine k7 t ?_
        show Steps p.tables e below (T6.setTop (mkF m 21 #[.val (.ref a2_0), .val (.ref a2_1)] [(.int (lcmpW na nb))])) _
        refine XS.ifYes X6.here hx rfl (pc0 := 21) (pc' := 28) rfl (hb hby d2_21) rfl ((if0 _ _).trans (feq (fun q => absurd ((lw_eq _ _).mp q) hc21_8)).2) (by decide) (by decide) ?_
        show Steps p.tables e below (T6.setTop (mkF m 28 #[.val (.ref a2_0), .val (.ref a2_1)] [])) _
        refine XS.iconst X6.here hx rfl (hb hby d2_28) ?_
        exact k
      obtain ⟨fs, hr, hrun, hended, hW, hsame⟩ := X6.leave (v := some (.int (0 : Int32))) (fun h => by rw [Bd.returns] at h; cases h)
      refine ⟨_, _, k10 _ ?_, hrun, hended, _, _, rfl, ?_, ⟨_, rfl⟩, hW, hsame.mono (by decide) (by decide)⟩
      · exact retN X6 hx (t := .boolean) Bd.returns (by simp) (hb hby d2_29) hr
      · show Q2 Z a2_0 a2_1 da na db nb h0 n0 _ T6.heap _
        rw [e6]
        exact ⟨congrArg (fun z => some (Value.int z)) (show ((0 : Int32) : Int32) = own_same da na db nb from by unfold own_same; rw [if_pos hc9_4, if_neg hc21_8]), N0, rfl⟩
  · skip
    have k11 : ∀ t, Steps p.tables e below (T2.setTop (mkF m 29 #[.val (.ref a2_0), .val (.ref a2_1)] [(.int (0 : Int32))])) t → Steps p.tables e below (s₁.setTop (entryFrame m #[(.ref a2_0), (.ref a2_1)] 2)) t := by
      intro t k
      refine k3 t ?_
      show Steps p.tables e below (T2.setTop (mkF m 9 #[.val (.ref a2_0), .val (.ref a2_1)] [(.int (lcmpW da db))])) _
      refine XS.ifYes X2.here hx rfl (pc0 := 9) (pc' := 28) rfl (hb hby d2_9) rfl ((if0 _ _).trans (feq (fun q => absurd ((lw_eq _ _).mp q) hc9_4)).2) (by decide) (by decide) ?_
      show Steps p.tables e below (T2.setTop (mkF m 28 #[.val (.ref a2_0), .val (.ref a2_1)] [])) _
      refine XS.iconst X2.here hx rfl (hb hby d2_28) ?_
      exact k
    obtain ⟨fs, hr, hrun, hended, hW, hsame⟩ := X2.leave (v := some (.int (0 : Int32))) (fun h => by rw [Bd.returns] at h; cases h)
    refine ⟨_, _, k11 _ ?_, hrun, hended, _, _, rfl, ?_, ⟨_, rfl⟩, hW, hsame.mono (by decide) (by decide)⟩
    · exact retN X2 hx (t := .boolean) Bd.returns (by simp) (hb hby d2_29) hr
    · show Q2 Z a2_0 a2_1 da na db nb h0 n0 _ T2.heap _
      rw [e2]
      exact ⟨congrArg (fun z => some (Value.int z)) (show ((0 : Int32) : Int32) = own_same da na db nb from by unfold own_same; rw [if_neg hc9_4]), N0, rfl⟩
theorem own_same_self (a b : Int64) : own_same a b a b = (1 : Int32) := by unfold own_same; simp
theorem own_law (a b : Int32) (d1 n1 d2 n2 : Int64) : own_same d1 n1 (if a = (0 : Int32) then d2 else d1) (if b = (0 : Int32) then n2 else n1) = (if (if a = (0 : Int32) then (if d2 = d1 then (1 : Int32) else (0 : Int32)) else (1 : Int32)) = (0 : Int32) then (0 : Int32) else (if (if b = (0 : Int32) then (if n2 = n1 then (1 : Int32) else (0 : Int32)) else (1 : Int32)) = (0 : Int32) then (0 : Int32) else (1 : Int32))) := by
  unfold own_same
  by_cases ha : a = 0 <;> by_cases hb : b = 0 <;> by_cases hd : d1 = d2 <;> by_cases hn : n1 = n2 <;> simp [ha, hb, hd, hn, eq_comm] <;> simp_all [eq_comm]
theorem own_law2 (a b : Int32) (d1 n1 d2 n2 : Int64) : own_same (if a = (0 : Int32) then d2 else d1) (if b = (0 : Int32) then n2 else n1) d1 n1 = (if (if a = (0 : Int32) then (if d2 = d1 then (1 : Int32) else (0 : Int32)) else (1 : Int32)) = (0 : Int32) then (0 : Int32) else (if (if b = (0 : Int32) then (if n2 = n1 then (1 : Int32) else (0 : Int32)) else (1 : Int32)) = (0 : Int32) then (0 : Int32) else (1 : Int32))) := by
  unfold own_same
  by_cases ha : a = 0 <;> by_cases hb : b = 0 <;> by_cases hd : d2 = d1 <;> by_cases hn : n2 = n1 <;> simp [ha, hb, hd, hn]
theorem pn_1 : plainName "com/example/batchrake/batchrake/InodeIsSamePinLaw" = true := by first | (simp [plainName, overriddenIn]; done) | decide +kernel
theorem pd_0 : parseMethodDescriptor "(JJZ)V" = some ⟨[.long, .long, .boolean], none⟩ := by decide +kernel
theorem pd_1 : parseMethodDescriptor "(Lcom/example/batchrake/batchrake/Inode;)Z" = some ⟨[(.object "com/example/batchrake/batchrake/Inode")], some .boolean⟩ := by decide +kernel
theorem ef_0 (m : MethodId) (q0_0 : Int64) (q0_1 : Int64) (q0_2 : Int64) (q0_3 : Int64) (p0_4 : Int32) : entryFrame m #[(.long q0_0), (.long q0_1), (.long q0_2), (.long q0_3), (.int p0_4)] maxLocals = mkF m 0 #[.val (.long q0_0), .second, .val (.long q0_1), .second, .val (.long q0_2), .second, .val (.long q0_3), .second, .val (.int p0_4), .unset, .unset, .unset, .unset, .unset, .unset, .unset, .unset, .unset, .unset, .unset, .unset, .unset, .unset, .unset, .unset] [] := by first | (simp [entryFrame, mkF, argsToLocals, Value.category, maxLocals]; done) | rfl
def Q0 (Z : State) (q0_0 : Int64) (q0_1 : Int64) (q0_2 : Int64) (q0_3 : Int64) (p0_4 : Int32) (h0 : Heap) (n0 : Nat) (v : Option Value) (h : Heap) (L : List Loc) : Prop := v = some (.int (1 : Int32)) ∧ Fr n0 L
set_option maxRecDepth 65536 in
set_option maxHeartbeats 40000000 in
theorem rm0 (l : Launch) (Z : State) (a0 : Array Value) (hw : ∀ d ∈ tables_1, d.before a0 Z = true) (ws : List Jvm.Cond) (q0_0 : Int64) (q0_1 : Int64) (q0_2 : Int64) (q0_3 : Int64) (p0_4 : Int32) (h0 : Heap) (n0 : Nat) (Z0 : n0 ≤ h0.size) :
    MetFree l x (head1 (Jvm.Cond.code x code maxLocals ret :: ws) room_1) (fun a U => a = #[(.long q0_0), (.long q0_1), (.long q0_2), (.long q0_3), (.int p0_4)] ∧ Z.Warmed39 U.vm ∧ U.heap = h0) (fun _ _ _ _ _ => True) (fun _ U o U' => ∃ v L, o = .returned v ∧ Q0 Z q0_0 q0_1 q0_2 q0_3 p0_4 h0 n0 v U'.heap L ∧ FrameEnd U o U' L 16 128) := by
  refine MetFree.of_bodySF (plainFor_of_name pn_1) hisR ?_
  intro p e s m args below meth c s₁ Bd hml0 hP hK
  obtain ⟨rfl, hZ, hh⟩ := hP
  have hx := Bd.exec
  have hby := Bd.bytes
  have hml : c.maxLocals = 25 := hml0
  have hown : s.vm.findClass "com/example/batchrake/batchrake/InodeIsSamePinLaw" = some m.cls := findClass_of_methodNamed Bd.named
  have hnm := (name_of_methodNamed Bd.named Bd.method).1
  have X0 : Stand p l e room_1 s m #[(.long q0_0), (.long q0_1), (.long q0_2), (.long q0_3), (.int p0_4)] below meth c s₁ [] 0 0 := Stand.of_body Bd
  have e0 : s₁.heap = h0 := by rw [← hh, Bd.state]; rfl
  have N0 := Fr.nil n0
  have pre0 : ∀ t, Steps p.tables e below (s₁.setTop (mkF m 0 #[.val (.long q0_0), .second, .val (.long q0_1), .second, .val (.long q0_2), .second, .val (.long q0_3), .second, .val (.int p0_4), .unset, .unset, .unset, .unset, .unset, .unset, .unset, .unset, .unset, .unset, .unset, .unset, .unset, .unset, .unset, .unset] [])) t → Steps p.tables e below (s₁.setTop (entryFrame m #[(.long q0_0), (.long q0_1), (.long q0_2), (.long q0_3), (.int p0_4)] maxLocals)) t := fun t k => castTop (ef_0 m q0_0 q0_1 q0_2 q0_3 p0_4) k
  have k1 : ∀ t, Steps p.tables e below (s₁.setTop (mkF m 4 #[.val (.long q0_0), .second, .val (.long q0_1), .second, .val (.long q0_2), .second, .val (.long q0_3), .second, .val (.int p0_4), .unset, .unset, .unset, .unset, .unset, .unset, .unset, .unset, .unset, .unset, .unset, .unset, .unset, .unset, .unset, .unset] [(.int (p0_4 &&& (1 : Int32)))])) t → Steps p.tables e below (s₁.setTop (entryFrame m #[(.long q0_0), (.long q0_1), (.long q0_2), (.long q0_3), (.int p0_4)] maxLocals)) t := by
    intro t k
    refine pre0 t ?_
    show Steps p.tables e below (s₁.setTop (mkF m 0 #[.val (.long q0_0), .second, .val (.long q0_1), .second, .val (.long q0_2), .second, .val (.long q0_3), .second, .val (.int p0_4), .unset, .unset, .unset, .unset, .unset, .unset, .unset, .unset, .unset, .unset, .unset, .unset, .unset, .unset, .unset, .unset] [])) _
    refine XS.iload X0.here hx rfl (hb hby at_0) rfl ?_
    show Steps p.tables e below (s₁.setTop (mkF m 2 #[.val (.long q0_0), .second, .val (.long q0_1), .second, .val (.long q0_2), .second, .val (.long q0_3), .second, .val (.int p0_4), .unset, .unset, .unset, .unset, .unset, .unset, .unset, .unset, .unset, .unset, .unset, .unset, .unset, .unset, .unset, .unset] [(.int p0_4)])) _
    refine XS.iconst X0.here hx rfl (hb hby at_2) ?_
    show Steps p.tables e below (s₁.setTop (mkF m 3 #[.val (.long q0_0), .second, .val (.long q0_1), .second, .val (.long q0_2), .second, .val (.long q0_3), .second, .val (.int p0_4), .unset, .unset, .unset, .unset, .unset, .unset, .unset, .unset, .unset, .unset, .unset, .unset, .unset, .unset, .unset, .unset] [(.int (1 : Int32)), (.int p0_4)])) _
    refine XS.iand X0.here hx rfl (hb hby at_3) rfl ?_
    exact k
  obtain ⟨v3, hv3⟩ : ∃ z, z = (if (p0_4 &&& (1 : Int32)) = (0 : Int32) then (0 : Int32) else (1 : Int32)) := ⟨_, rfl⟩
  have k4 : ∀ t, Steps p.tables e below (s₁.setTop (mkF m 12 #[.val (.long q0_0), .second, .val (.long q0_1), .second, .val (.long q0_2), .second, .val (.long q0_3), .second, .val (.int p0_4), .unset, .unset, .unset, .unset, .unset, .unset, .unset, .unset, .unset, .unset, .unset, .unset, .unset, .unset, .unset, .unset] [(.int v3)])) t → Steps p.tables e below (s₁.setTop (entryFrame m #[(.long q0_0), (.long q0_1), (.long q0_2), (.long q0_3), (.int p0_4)] maxLocals)) t := by
    intro t k
    refine k1 t ?_
    by_cases hc4_2 : (p0_4 &&& (1 : Int32)) = (0 : Int32)
    · skip
      show Steps p.tables e below (s₁.setTop (mkF m 4 #[.val (.long q0_0), .second, .val (.long q0_1), .second, .val (.long q0_2), .second, .val (.long q0_3), .second, .val (.int p0_4), .unset, .unset, .unset, .unset, .unset, .unset, .unset, .unset, .unset, .unset, .unset, .unset, .unset, .unset, .unset, .unset] [(.int (p0_4 &&& (1 : Int32)))])) _
      refine XS.ifYes X0.here hx rfl (pc0 := 4) (pc' := 11) rfl (hb hby at_4) rfl ((if0 _ _).trans (teq hc4_2).1) (by decide) (by decide) ?_
      show Steps p.tables e below (s₁.setTop (mkF m 11 #[.val (.long q0_0), .second, .val (.long q0_1), .second, .val (.long q0_2), .second, .val (.long q0_3), .second, .val (.int p0_4), .unset, .unset, .unset, .unset, .unset, .unset, .unset, .unset, .unset, .unset, .unset, .unset, .unset, .unset, .unset, .unset] [])) _
      refine XS.iconst X0.here hx rfl (hb hby at_11) ?_
      rw [show v3 = (0 : Int32) from hv3.trans (by rw [if_pos hc4_2])] at k
      exact k
    · skip
      show Steps p.tables e below (s₁.setTop (mkF m 4 #[.val (.long q0_0), .second, .val (.long q0_1), .second, .val (.long q0_2), .second, .val (.long q0_3), .second, .val (.int p0_4), .unset, .unset, .unset, .unset, .unset, .unset, .unset, .unset, .unset, .unset, .unset, .unset, .unset, .unset, .unset, .unset] [(.int (p0_4 &&& (1 : Int32)))])) _
      refine XS.ifNo X0.here hx rfl (hb hby at_4) rfl ((if0 _ _).trans (feq hc4_2).1) ?_
      show Steps p.tables e below (s₁.setTop (mkF m 7 #[.val (.long q0_0), .second, .val (.long q0_1), .second, .val (.long q0_2), .second, .val (.long q0_3), .second, .val (.int p0_4), .unset, .unset, .unset, .unset, .unset, .unset, .unset, .unset, .unset, .unset, .unset, .unset, .unset, .unset, .unset, .unset] [])) _
      refine XS.iconst X0.here hx rfl (hb hby at_7) ?_
      show Steps p.tables e below (s₁.setTop (mkF m 8 #[.val (.long q0_0), .second, .val (.long q0_1), .second, .val (.long q0_2), .second, .val (.long q0_3), .second, .val (.int p0_4), .unset, .unset, .unset, .unset, .unset, .unset, .unset, .unset, .unset, .unset, .unset, .unset, .unset, .unset, .unset, .unset] [(.int (1 : Int32))])) _
      refine XS.goto X0.here hx rfl (pc0 := 8) (pc' := 12) rfl (hb hby at_8) (by decide) (by decide) ?_
      rw [show v3 = (1 : Int32) from hv3.trans (by rw [if_neg hc4_2])] at k
      exact k
  have k5 : ∀ t, Steps p.tables e below (s₁.setTop (mkF m 18 #[.val (.long q0_0), .second, .val (.long q0_1), .second, .val (.long q0_2), .second, .val (.long q0_3), .second, .val (.int p0_4), .val (.int v3), .unset, .unset, .unset, .unset, .unset, .unset, .unset, .unset, .unset, .unset, .unset, .unset, .unset, .unset, .unset] [(.int (p0_4 &&& (2 : Int32)))])) t → Steps p.tables e below (s₁.setTop (entryFrame m #[(.long q0_0), (.long q0_1), (.long q0_2), (.long q0_3), (.int p0_4)] maxLocals)) t := by
    intro t k
    refine k4 t ?_
    show Steps p.tables e below (s₁.setTop (mkF m 12 #[.val (.long q0_0), .second, .val (.long q0_1), .second, .val (.long q0_2), .second, .val (.long q0_3), .second, .val (.int p0_4), .unset, .unset, .unset, .unset, .unset, .unset, .unset, .unset, .unset, .unset, .unset, .unset, .unset, .unset, .unset, .unset] [(.int v3)])) _
    refine XS.istore X0.here hx rfl (hb hby at_12) rfl (l' := #[.val (.long q0_0), .second, .val (.long q0_1), .second, .val (.long q0_2), .second, .val (.long q0_3), .second, .val (.int p0_4), .val (.int v3), .unset, .unset, .unset, .unset, .unset, .unset, .unset, .unset, .unset, .unset, .unset, .unset, .unset, .unset, .unset]) rfl ?_
    show Steps p.tables e below (s₁.setTop (mkF m 14 #[.val (.long q0_0), .second, .val (.long q0_1), .second, .val (.long q0_2), .second, .val (.long q0_3), .second, .val (.int p0_4), .val (.int v3), .unset, .unset, .unset, .unset, .unset, .unset, .unset, .unset, .unset, .unset, .unset, .unset, .unset, .unset, .unset] [])) _
    refine XS.iload X0.here hx rfl (hb hby at_14) rfl ?_
    show Steps p.tables e below (s₁.setTop (mkF m 16 #[.val (.long q0_0), .second, .val (.long q0_1), .second, .val (.long q0_2), .second, .val (.long q0_3), .second, .val (.int p0_4), .val (.int v3), .unset, .unset, .unset, .unset, .unset, .unset, .unset, .unset, .unset, .unset, .unset, .unset, .unset, .unset, .unset] [(.int p0_4)])) _
    refine XS.iconst X0.here hx rfl (hb hby at_16) ?_
    show Steps p.tables e below (s₁.setTop (mkF m 17 #[.val (.long q0_0), .second, .val (.long q0_1), .second, .val (.long q0_2), .second, .val (.long q0_3), .second, .val (.int p0_4), .val (.int v3), .unset, .unset, .unset, .unset, .unset, .unset, .unset, .unset, .unset, .unset, .unset, .unset, .unset, .unset, .unset] [(.int (2 : Int32)), (.int p0_4)])) _
    refine XS.iand X0.here hx rfl (hb hby at_17) rfl ?_
    exact k
  obtain ⟨v7, hv7⟩ : ∃ z, z = (if (p0_4 &&& (2 : Int32)) = (0 : Int32) then (0 : Int32) else (1 : Int32)) := ⟨_, rfl⟩
  have k8 : ∀ t, Steps p.tables e below (s₁.setTop (mkF m 26 #[.val (.long q0_0), .second, .val (.long q0_1), .second, .val (.long q0_2), .second, .val (.long q0_3), .second, .val (.int p0_4), .val (.int v3), .unset, .unset, .unset, .unset, .unset, .unset, .unset, .unset, .unset, .unset, .unset, .unset, .unset, .unset, .unset] [(.int v7)])) t → Steps p.tables e below (s₁.setTop (entryFrame m #[(.long q0_0), (.long q0_1), (.long q0_2), (.long q0_3), (.int p0_4)] maxLocals)) t := by
    intro t k
    refine k5 t ?_
    by_cases hc18_6 : (p0_4 &&& (2 : Int32)) = (0 : Int32)
    · skip
      show Steps p.tables e below (s₁.setTop (mkF m 18 #[.val (.long q0_0), .second, .val (.long q0_1), .second, .val (.long q0_2), .second, .val (.long q0_3), .second, .val (.int p0_4), .val (.int v3), .unset, .unset, .unset, .unset, .unset, .unset, .unset, .unset, .unset, .unset, .unset, .unset, .unset, .unset, .unset] [(.int (p0_4 &&& (2 : Int32)))])) _
      refine XS.ifYes X0.here hx rfl (pc0 := 18) (pc' := 25) rfl (hb hby at_18) rfl ((if0 _ _).trans (teq hc18_6).1) (by decide) (by decide) ?_
      show Steps p.tables e below (s₁.setTop (mkF m 25 #[.val (.long q0_0), .second, .val (.long q0_1), .second, .val (.long q0_2), .second, .val (.long q0_3), .second, .val (.int p0_4), .val (.int v3), .unset, .unset, .unset, .unset, .unset, .unset, .unset, .unset, .unset, .unset, .unset, .unset, .unset, .unset, .unset] [])) _
      refine XS.iconst X0.here hx rfl (hb hby at_25) ?_
      rw [show v7 = (0 : Int32) from hv7.trans (by rw [if_pos hc18_6])] at k
      exact k
    · skip
      show Steps p.tables e below (s₁.setTop (mkF m 18 #[.val (.long q0_0), .second, .val (.long q0_1), .second, .val (.long q0_2), .second, .val (.long q0_3), .second, .val (.int p0_4), .val (.int v3), .unset, .unset, .unset, .unset, .unset, .unset, .unset, .unset, .unset, .unset, .unset, .unset, .unset, .unset, .unset] [(.int (p0_4 &&& (2 : Int32)))])) _
      refine XS.ifNo X0.here hx rfl (hb hby at_18) rfl ((if0 _ _).trans (feq hc18_6).1) ?_
      show Steps p.tables e below (s₁.setTop (mkF m 21 #[.val (.long q0_0), .second, .val (.long q0_1), .second, .val (.long q0_2), .second, .val (.long q0_3), .second, .val (.int p0_4), .val (.int v3), .unset, .unset, .unset, .unset, .unset, .unset, .unset, .unset, .unset, .unset, .unset, .unset, .unset, .unset, .unset] [])) _
      refine XS.iconst X0.here hx rfl (hb hby at_21) ?_
      show Steps p.tables e below (s₁.setTop (mkF m 22 #[.val (.long q0_0), .second, .val (.long q0_1), .second, .val (.long q0_2), .second, .val (.long q0_3), .second, .val (.int p0_4), .val (.int v3), .unset, .unset, .unset, .unset, .unset, .unset, .unset, .unset, .unset, .unset, .unset, .unset, .unset, .unset, .unset] [(.int (1 : Int32))])) _
      refine XS.goto X0.here hx rfl (pc0 := 22) (pc' := 26) rfl (hb hby at_22) (by decide) (by decide) ?_
      rw [show v7 = (1 : Int32) from hv7.trans (by rw [if_neg hc18_6])] at k
      exact k
  have k9 : ∀ t, Steps p.tables e below (s₁.setTop (mkF m 32 #[.val (.long q0_0), .second, .val (.long q0_1), .second, .val (.long q0_2), .second, .val (.long q0_3), .second, .val (.int p0_4), .val (.int v3), .val (.int v7), .unset, .unset, .unset, .unset, .unset, .unset, .unset, .unset, .unset, .unset, .unset, .unset, .unset, .unset] [(.int (p0_4 &&& (4 : Int32)))])) t → Steps p.tables e below (s₁.setTop (entryFrame m #[(.long q0_0), (.long q0_1), (.long q0_2), (.long q0_3), (.int p0_4)] maxLocals)) t := by
    intro t k
    refine k8 t ?_
    show Steps p.tables e below (s₁.setTop (mkF m 26 #[.val (.long q0_0), .second, .val (.long q0_1), .second, .val (.long q0_2), .second, .val (.long q0_3), .second, .val (.int p0_4), .val (.int v3), .unset, .unset, .unset, .unset, .unset, .unset, .unset, .unset, .unset, .unset, .unset, .unset, .unset, .unset, .unset] [(.int v7)])) _
    refine XS.istore X0.here hx rfl (hb hby at_26) rfl (l' := #[.val (.long q0_0), .second, .val (.long q0_1), .second, .val (.long q0_2), .second, .val (.long q0_3), .second, .val (.int p0_4), .val (.int v3), .val (.int v7), .unset, .unset, .unset, .unset, .unset, .unset, .unset, .unset, .unset, .unset, .unset, .unset, .unset, .unset]) rfl ?_
    show Steps p.tables e below (s₁.setTop (mkF m 28 #[.val (.long q0_0), .second, .val (.long q0_1), .second, .val (.long q0_2), .second, .val (.long q0_3), .second, .val (.int p0_4), .val (.int v3), .val (.int v7), .unset, .unset, .unset, .unset, .unset, .unset, .unset, .unset, .unset, .unset, .unset, .unset, .unset, .unset] [])) _
    refine XS.iload X0.here hx rfl (hb hby at_28) rfl ?_
    show Steps p.tables e below (s₁.setTop (mkF m 30 #[.val (.long q0_0), .second, .val (.long q0_1), .second, .val (.long q0_2), .second, .val (.long q0_3), .second, .val (.int p0_4), .val (.int v3), .val (.int v7), .unset, .unset, .unset, .unset, .unset, .unset, .unset, .unset, .unset, .unset, .unset, .unset, .unset, .unset] [(.int p0_4)])) _
    refine XS.iconst X0.here hx rfl (hb hby at_30) ?_
    show Steps p.tables e below (s₁.setTop (mkF m 31 #[.val (.long q0_0), .second, .val (.long q0_1), .second, .val (.long q0_2), .second, .val (.long q0_3), .second, .val (.int p0_4), .val (.int v3), .val (.int v7), .unset, .unset, .unset, .unset, .unset, .unset, .unset, .unset, .unset, .unset, .unset, .unset, .unset, .unset] [(.int (4 : Int32)), (.int p0_4)])) _
    refine XS.iand X0.here hx rfl (hb hby at_31) rfl ?_
    exact k
  obtain ⟨v11, hv11⟩ : ∃ z, z = (if (p0_4 &&& (4 : Int32)) = (0 : Int32) then (0 : Int32) else (1 : Int32)) := ⟨_, rfl⟩
  have k12 : ∀ t, Steps p.tables e below (s₁.setTop (mkF m 40 #[.val (.long q0_0), .second, .val (.long q0_1), .second, .val (.long q0_2), .second, .val (.long q0_3), .second, .val (.int p0_4), .val (.int v3), .val (.int v7), .unset, .unset, .unset, .unset, .unset, .unset, .unset, .unset, .unset, .unset, .unset, .unset, .unset, .unset] [(.int v11)])) t → Steps p.tables e below (s₁.setTop (entryFrame m #[(.long q0_0), (.long q0_1), (.long q0_2), (.long q0_3), (.int p0_4)] maxLocals)) t := by
    intro t k
    refine k9 t ?_
    by_cases hc32_10 : (p0_4 &&& (4 : Int32)) = (0 : Int32)
    · skip
      show Steps p.tables e below (s₁.setTop (mkF m 32 #[.val (.long q0_0), .second, .val (.long q0_1), .second, .val (.long q0_2), .second, .val (.long q0_3), .second, .val (.int p0_4), .val (.int v3), .val (.int v7), .unset, .unset, .unset, .unset, .unset, .unset, .unset, .unset, .unset, .unset, .unset, .unset, .unset, .unset] [(.int (p0_4 &&& (4 : Int32)))])) _
      refine XS.ifYes X0.here hx rfl (pc0 := 32) (pc' := 39) rfl (hb hby at_32) rfl ((if0 _ _).trans (teq hc32_10).1) (by decide) (by decide) ?_
      show Steps p.tables e below (s₁.setTop (mkF m 39 #[.val (.long q0_0), .second, .val (.long q0_1), .second, .val (.long q0_2), .second, .val (.long q0_3), .second, .val (.int p0_4), .val (.int v3), .val (.int v7), .unset, .unset, .unset, .unset, .unset, .unset, .unset, .unset, .unset, .unset, .unset, .unset, .unset, .unset] [])) _
      refine XS.iconst X0.here hx rfl (hb hby at_39) ?_
      rw [show v11 = (0 : Int32) from hv11.trans (by rw [if_pos hc32_10])] at k
      exact k
    · skip
      show Steps p.tables e below (s₁.setTop (mkF m 32 #[.val (.long q0_0), .second, .val (.long q0_1), .second, .val (.long q0_2), .second, .val (.long q0_3), .second, .val (.int p0_4), .val (.int v3), .val (.int v7), .unset, .unset, .unset, .unset, .unset, .unset, .unset, .unset, .unset, .unset, .unset, .unset, .unset, .unset] [(.int (p0_4 &&& (4 : Int32)))])) _
      refine XS.ifNo X0.here hx rfl (hb hby at_32) rfl ((if0 _ _).trans (feq hc32_10).1) ?_
      show Steps p.tables e below (s₁.setTop (mkF m 35 #[.val (.long q0_0), .second, .val (.long q0_1), .second, .val (.long q0_2), .second, .val (.long q0_3), .second, .val (.int p0_4), .val (.int v3), .val (.int v7), .unset, .unset, .unset, .unset, .unset, .unset, .unset, .unset, .unset, .unset, .unset, .unset, .unset, .unset] [])) _
      refine XS.iconst X0.here hx rfl (hb hby at_35) ?_
      show Steps p.tables e below (s₁.setTop (mkF m 36 #[.val (.long q0_0), .second, .val (.long q0_1), .second, .val (.long q0_2), .second, .val (.long q0_3), .second, .val (.int p0_4), .val (.int v3), .val (.int v7), .unset, .unset, .unset, .unset, .unset, .unset, .unset, .unset, .unset, .unset, .unset, .unset, .unset, .unset] [(.int (1 : Int32))])) _
      refine XS.goto X0.here hx rfl (pc0 := 36) (pc' := 40) rfl (hb hby at_36) (by decide) (by decide) ?_
      rw [show v11 = (1 : Int32) from hv11.trans (by rw [if_neg hc32_10])] at k
      exact k
  have k13 : ∀ t, Steps p.tables e below (s₁.setTop (mkF m 47 #[.val (.long q0_0), .second, .val (.long q0_1), .second, .val (.long q0_2), .second, .val (.long q0_3), .second, .val (.int p0_4), .val (.int v3), .val (.int v7), .val (.int v11), .unset, .unset, .unset, .unset, .unset, .unset, .unset, .unset, .unset, .unset, .unset, .unset, .unset] [(.int (p0_4 &&& (8 : Int32)))])) t → Steps p.tables e below (s₁.setTop (entryFrame m #[(.long q0_0), (.long q0_1), (.long q0_2), (.long q0_3), (.int p0_4)] maxLocals)) t := by
    intro t k
    refine k12 t ?_
    show Steps p.tables e below (s₁.setTop (mkF m 40 #[.val (.long q0_0), .second, .val (.long q0_1), .second, .val (.long q0_2), .second, .val (.long q0_3), .second, .val (.int p0_4), .val (.int v3), .val (.int v7), .unset, .unset, .unset, .unset, .unset, .unset, .unset, .unset, .unset, .unset, .unset, .unset, .unset, .unset] [(.int v11)])) _
    refine XS.istore X0.here hx rfl (hb hby at_40) rfl (l' := #[.val (.long q0_0), .second, .val (.long q0_1), .second, .val (.long q0_2), .second, .val (.long q0_3), .second, .val (.int p0_4), .val (.int v3), .val (.int v7), .val (.int v11), .unset, .unset, .unset, .unset, .unset, .unset, .unset, .unset, .unset, .unset, .unset, .unset, .unset]) rfl ?_
    show Steps p.tables e below (s₁.setTop (mkF m 42 #[.val (.long q0_0), .second, .val (.long q0_1), .second, .val (.long q0_2), .second, .val (.long q0_3), .second, .val (.int p0_4), .val (.int v3), .val (.int v7), .val (.int v11), .unset, .unset, .unset, .unset, .unset, .unset, .unset, .unset, .unset, .unset, .unset, .unset, .unset] [])) _
    refine XS.iload X0.here hx rfl (hb hby at_42) rfl ?_
    show Steps p.tables e below (s₁.setTop (mkF m 44 #[.val (.long q0_0), .second, .val (.long q0_1), .second, .val (.long q0_2), .second, .val (.long q0_3), .second, .val (.int p0_4), .val (.int v3), .val (.int v7), .val (.int v11), .unset, .unset, .unset, .unset, .unset, .unset, .unset, .unset, .unset, .unset, .unset, .unset, .unset] [(.int p0_4)])) _
    refine XS.bipush X0.here hx rfl (hb hby at_44) ?_
    show Steps p.tables e below (s₁.setTop (mkF m 46 #[.val (.long q0_0), .second, .val (.long q0_1), .second, .val (.long q0_2), .second, .val (.long q0_3), .second, .val (.int p0_4), .val (.int v3), .val (.int v7), .val (.int v11), .unset, .unset, .unset, .unset, .unset, .unset, .unset, .unset, .unset, .unset, .unset, .unset, .unset] [(.int (8 : Int32)), (.int p0_4)])) _
    refine XS.iand X0.here hx rfl (hb hby at_46) rfl ?_
    exact k
  obtain ⟨v15, hv15⟩ : ∃ z, z = (if (p0_4 &&& (8 : Int32)) = (0 : Int32) then (0 : Int32) else (1 : Int32)) := ⟨_, rfl⟩
  have k16 : ∀ t, Steps p.tables e below (s₁.setTop (mkF m 55 #[.val (.long q0_0), .second, .val (.long q0_1), .second, .val (.long q0_2), .second, .val (.long q0_3), .second, .val (.int p0_4), .val (.int v3), .val (.int v7), .val (.int v11), .unset, .unset, .unset, .unset, .unset, .unset, .unset, .unset, .unset, .unset, .unset, .unset, .unset] [(.int v15)])) t → Steps p.tables e below (s₁.setTop (entryFrame m #[(.long q0_0), (.long q0_1), (.long q0_2), (.long q0_3), (.int p0_4)] maxLocals)) t := by
    intro t k
    refine k13 t ?_
    by_cases hc47_14 : (p0_4 &&& (8 : Int32)) = (0 : Int32)
    · skip
      show Steps p.tables e below (s₁.setTop (mkF m 47 #[.val (.long q0_0), .second, .val (.long q0_1), .second, .val (.long q0_2), .second, .val (.long q0_3), .second, .val (.int p0_4), .val (.int v3), .val (.int v7), .val (.int v11), .unset, .unset, .unset, .unset, .unset, .unset, .unset, .unset, .unset, .unset, .unset, .unset, .unset] [(.int (p0_4 &&& (8 : Int32)))])) _
      refine XS.ifYes X0.here hx rfl (pc0 := 47) (pc' := 54) rfl (hb hby at_47) rfl ((if0 _ _).trans (teq hc47_14).1) (by decide) (by decide) ?_
      show Steps p.tables e below (s₁.setTop (mkF m 54 #[.val (.long q0_0), .second, .val (.long q0_1), .second, .val (.long q0_2), .second, .val (.long q0_3), .second, .val (.int p0_4), .val (.int v3), .val (.int v7), .val (.int v11), .unset, .unset, .unset, .unset, .unset, .unset, .unset, .unset, .unset, .unset, .unset, .unset, .unset] [])) _
      refine XS.iconst X0.here hx rfl (hb hby at_54) ?_
      rw [show v15 = (0 : Int32) from hv15.trans (by rw [if_pos hc47_14])] at k
      exact k
    · skip
      show Steps p.tables e below (s₁.setTop (mkF m 47 #[.val (.long q0_0), .second, .val (.long q0_1), .second, .val (.long q0_2), .second, .val (.long q0_3), .second, .val (.int p0_4), .val (.int v3), .val (.int v7), .val (.int v11), .unset, .unset, .unset, .unset, .unset, .unset, .unset, .unset, .unset, .unset, .unset, .unset, .unset] [(.int (p0_4 &&& (8 : Int32)))])) _
      refine XS.ifNo X0.here hx rfl (hb hby at_47) rfl ((if0 _ _).trans (feq hc47_14).1) ?_
      show Steps p.tables e below (s₁.setTop (mkF m 50 #[.val (.long q0_0), .second, .val (.long q0_1), .second, .val (.long q0_2), .second, .val (.long q0_3), .second, .val (.int p0_4), .val (.int v3), .val (.int v7), .val (.int v11), .unset, .unset, .unset, .unset, .unset, .unset, .unset, .unset, .unset, .unset, .unset, .unset, .unset] [])) _
      refine XS.iconst X0.here hx rfl (hb hby at_50) ?_
      show Steps p.tables e below (s₁.setTop (mkF m 51 #[.val (.long q0_0), .second, .val (.long q0_1), .second, .val (.long q0_2), .second, .val (.long q0_3), .second, .val (.int p0_4), .val (.int v3), .val (.int v7), .val (.int v11), .unset, .unset, .unset, .unset, .unset, .unset, .unset, .unset, .unset, .unset, .unset, .unset, .unset] [(.int (1 : Int32))])) _
      refine XS.goto X0.here hx rfl (pc0 := 51) (pc' := 55) rfl (hb hby at_51) (by decide) (by decide) ?_
      rw [show v15 = (1 : Int32) from hv15.trans (by rw [if_neg hc47_14])] at k
      exact k
  have k17 : ∀ t, Steps p.tables e below (s₁.setTop (mkF m 59 #[.val (.long q0_0), .second, .val (.long q0_1), .second, .val (.long q0_2), .second, .val (.long q0_3), .second, .val (.int p0_4), .val (.int v3), .val (.int v7), .val (.int v11), .val (.int v15), .unset, .unset, .unset, .unset, .unset, .unset, .unset, .unset, .unset, .unset, .unset, .unset] [(.int v11)])) t → Steps p.tables e below (s₁.setTop (entryFrame m #[(.long q0_0), (.long q0_1), (.long q0_2), (.long q0_3), (.int p0_4)] maxLocals)) t := by
    intro t k
    refine k16 t ?_
    show Steps p.tables e below (s₁.setTop (mkF m 55 #[.val (.long q0_0), .second, .val (.long q0_1), .second, .val (.long q0_2), .second, .val (.long q0_3), .second, .val (.int p0_4), .val (.int v3), .val (.int v7), .val (.int v11), .unset, .unset, .unset, .unset, .unset, .unset, .unset, .unset, .unset, .unset, .unset, .unset, .unset] [(.int v15)])) _
    refine XS.istore X0.here hx rfl (hb hby at_55) rfl (l' := #[.val (.long q0_0), .second, .val (.long q0_1), .second, .val (.long q0_2), .second, .val (.long q0_3), .second, .val (.int p0_4), .val (.int v3), .val (.int v7), .val (.int v11), .val (.int v15), .unset, .unset, .unset, .unset, .unset, .unset, .unset, .unset, .unset, .unset, .unset, .unset]) rfl ?_
    show Steps p.tables e below (s₁.setTop (mkF m 57 #[.val (.long q0_0), .second, .val (.long q0_1), .second, .val (.long q0_2), .second, .val (.long q0_3), .second, .val (.int p0_4), .val (.int v3), .val (.int v7), .val (.int v11), .val (.int v15), .unset, .unset, .unset, .unset, .unset, .unset, .unset, .unset, .unset, .unset, .unset, .unset] [])) _
    refine XS.iload X0.here hx rfl (hb hby at_57) rfl ?_
    exact k
  obtain ⟨v19, hv19⟩ : ∃ z, z = (if v11 = (0 : Int32) then q0_2 else q0_0) := ⟨_, rfl⟩
  have k20 : ∀ t, Steps p.tables e below (s₁.setTop (mkF m 68 #[.val (.long q0_0), .second, .val (.long q0_1), .second, .val (.long q0_2), .second, .val (.long q0_3), .second, .val (.int p0_4), .val (.int v3), .val (.int v7), .val (.int v11), .val (.int v15), .unset, .unset, .unset, .unset, .unset, .unset, .unset, .unset, .unset, .unset, .unset, .unset] [(.long v19)])) t → Steps p.tables e below (s₁.setTop (entryFrame m #[(.long q0_0), (.long q0_1), (.long q0_2), (.long q0_3), (.int p0_4)] maxLocals)) t := by
    intro t k
    refine k17 t ?_
    by_cases hc59_18 : v11 = (0 : Int32)
    · skip
      show Steps p.tables e below (s₁.setTop (mkF m 59 #[.val (.long q0_0), .second, .val (.long q0_1), .second, .val (.long q0_2), .second, .val (.long q0_3), .second, .val (.int p0_4), .val (.int v3), .val (.int v7), .val (.int v11), .val (.int v15), .unset, .unset, .unset, .unset, .unset, .unset, .unset, .unset, .unset, .unset, .unset, .unset] [(.int v11)])) _
      refine XS.ifYes X0.here hx rfl (pc0 := 59) (pc' := 66) rfl (hb hby at_59) rfl ((if0 _ _).trans (teq hc59_18).1) (by decide) (by decide) ?_
      show Steps p.tables e below (s₁.setTop (mkF m 66 #[.val (.long q0_0), .second, .val (.long q0_1), .second, .val (.long q0_2), .second, .val (.long q0_3), .second, .val (.int p0_4), .val (.int v3), .val (.int v7), .val (.int v11), .val (.int v15), .unset, .unset, .unset, .unset, .unset, .unset, .unset, .unset, .unset, .unset, .unset, .unset] [])) _
      refine XS.lload X0.here hx rfl (hb hby at_66) rfl ?_
      rw [show v19 = q0_2 from hv19.trans (by rw [if_pos hc59_18])] at k
      exact k
    · skip
      show Steps p.tables e below (s₁.setTop (mkF m 59 #[.val (.long q0_0), .second, .val (.long q0_1), .second, .val (.long q0_2), .second, .val (.long q0_3), .second, .val (.int p0_4), .val (.int v3), .val (.int v7), .val (.int v11), .val (.int v15), .unset, .unset, .unset, .unset, .unset, .unset, .unset, .unset, .unset, .unset, .unset, .unset] [(.int v11)])) _
      refine XS.ifNo X0.here hx rfl (hb hby at_59) rfl ((if0 _ _).trans (feq hc59_18).1) ?_
      show Steps p.tables e below (s₁.setTop (mkF m 62 #[.val (.long q0_0), .second, .val (.long q0_1), .second, .val (.long q0_2), .second, .val (.long q0_3), .second, .val (.int p0_4), .val (.int v3), .val (.int v7), .val (.int v11), .val (.int v15), .unset, .unset, .unset, .unset, .unset, .unset, .unset, .unset, .unset, .unset, .unset, .unset] [])) _
      refine XS.lloadN X0.here hx rfl (hb hby at_62) rfl ?_
      show Steps p.tables e below (s₁.setTop (mkF m 63 #[.val (.long q0_0), .second, .val (.long q0_1), .second, .val (.long q0_2), .second, .val (.long q0_3), .second, .val (.int p0_4), .val (.int v3), .val (.int v7), .val (.int v11), .val (.int v15), .unset, .unset, .unset, .unset, .unset, .unset, .unset, .unset, .unset, .unset, .unset, .unset] [(.long q0_0)])) _
      refine XS.goto X0.here hx rfl (pc0 := 63) (pc' := 68) rfl (hb hby at_63) (by decide) (by decide) ?_
      rw [show v19 = q0_0 from hv19.trans (by rw [if_neg hc59_18])] at k
      exact k
  have k21 : ∀ t, Steps p.tables e below (s₁.setTop (mkF m 72 #[.val (.long q0_0), .second, .val (.long q0_1), .second, .val (.long q0_2), .second, .val (.long q0_3), .second, .val (.int p0_4), .val (.int v3), .val (.int v7), .val (.int v11), .val (.int v15), .val (.long v19), .second, .unset, .unset, .unset, .unset, .unset, .unset, .unset, .unset, .unset, .unset] [(.int v15)])) t → Steps p.tables e below (s₁.setTop (entryFrame m #[(.long q0_0), (.long q0_1), (.long q0_2), (.long q0_3), (.int p0_4)] maxLocals)) t := by
    intro t k
    refine k20 t ?_
    show Steps p.tables e below (s₁.setTop (mkF m 68 #[.val (.long q0_0), .second, .val (.long q0_1), .second, .val (.long q0_2), .second, .val (.long q0_3), .second, .val (.int p0_4), .val (.int v3), .val (.int v7), .val (.int v11), .val (.int v15), .unset, .unset, .unset, .unset, .unset, .unset, .unset, .unset, .unset, .unset, .unset, .unset] [(.long v19)])) _
    refine XS.lstore X0.here hx rfl (hb hby at_68) rfl (l' := #[.val (.long q0_0), .second, .val (.long q0_1), .second, .val (.long q0_2), .second, .val (.long q0_3), .second, .val (.int p0_4), .val (.int v3), .val (.int v7), .val (.int v11), .val (.int v15), .val (.long v19), .second, .unset, .unset, .unset, .unset, .unset, .unset, .unset, .unset, .unset, .unset]) rfl ?_
    show Steps p.tables e below (s₁.setTop (mkF m 70 #[.val (.long q0_0), .second, .val (.long q0_1), .second, .val (.long q0_2), .second, .val (.long q0_3), .second, .val (.int p0_4), .val (.int v3), .val (.int v7), .val (.int v11), .val (.int v15), .val (.long v19), .second, .unset, .unset, .unset, .unset, .unset, .unset, .unset, .unset, .unset, .unset] [])) _
    refine XS.iload X0.here hx rfl (hb hby at_70) rfl ?_
    exact k
  obtain ⟨v23, hv23⟩ : ∃ z, z = (if v15 = (0 : Int32) then q0_3 else q0_1) := ⟨_, rfl⟩
  have k24 : ∀ t, Steps p.tables e below (s₁.setTop (mkF m 81 #[.val (.long q0_0), .second, .val (.long q0_1), .second, .val (.long q0_2), .second, .val (.long q0_3), .second, .val (.int p0_4), .val (.int v3), .val (.int v7), .val (.int v11), .val (.int v15), .val (.long v19), .second, .unset, .unset, .unset, .unset, .unset, .unset, .unset, .unset, .unset, .unset] [(.long v23)])) t → Steps p.tables e below (s₁.setTop (entryFrame m #[(.long q0_0), (.long q0_1), (.long q0_2), (.long q0_3), (.int p0_4)] maxLocals)) t := by
    intro t k
    refine k21 t ?_
    by_cases hc72_22 : v15 = (0 : Int32)
    · skip
      show Steps p.tables e below (s₁.setTop (mkF m 72 #[.val (.long q0_0), .second, .val (.long q0_1), .second, .val (.long q0_2), .second, .val (.long q0_3), .second, .val (.int p0_4), .val (.int v3), .val (.int v7), .val (.int v11), .val (.int v15), .val (.long v19), .second, .unset, .unset, .unset, .unset, .unset, .unset, .unset, .unset, .unset, .unset] [(.int v15)])) _
      refine XS.ifYes X0.here hx rfl (pc0 := 72) (pc' := 79) rfl (hb hby at_72) rfl ((if0 _ _).trans (teq hc72_22).1) (by decide) (by decide) ?_
      show Steps p.tables e below (s₁.setTop (mkF m 79 #[.val (.long q0_0), .second, .val (.long q0_1), .second, .val (.long q0_2), .second, .val (.long q0_3), .second, .val (.int p0_4), .val (.int v3), .val (.int v7), .val (.int v11), .val (.int v15), .val (.long v19), .second, .unset, .unset, .unset, .unset, .unset, .unset, .unset, .unset, .unset, .unset] [])) _
      refine XS.lload X0.here hx rfl (hb hby at_79) rfl ?_
      rw [show v23 = q0_3 from hv23.trans (by rw [if_pos hc72_22])] at k
      exact k
    · skip
      show Steps p.tables e below (s₁.setTop (mkF m 72 #[.val (.long q0_0), .second, .val (.long q0_1), .second, .val (.long q0_2), .second, .val (.long q0_3), .second, .val (.int p0_4), .val (.int v3), .val (.int v7), .val (.int v11), .val (.int v15), .val (.long v19), .second, .unset, .unset, .unset, .unset, .unset, .unset, .unset, .unset, .unset, .unset] [(.int v15)])) _
      refine XS.ifNo X0.here hx rfl (hb hby at_72) rfl ((if0 _ _).trans (feq hc72_22).1) ?_
      show Steps p.tables e below (s₁.setTop (mkF m 75 #[.val (.long q0_0), .second, .val (.long q0_1), .second, .val (.long q0_2), .second, .val (.long q0_3), .second, .val (.int p0_4), .val (.int v3), .val (.int v7), .val (.int v11), .val (.int v15), .val (.long v19), .second, .unset, .unset, .unset, .unset, .unset, .unset, .unset, .unset, .unset, .unset] [])) _
      refine XS.lloadN X0.here hx rfl (hb hby at_75) rfl ?_
      show Steps p.tables e below (s₁.setTop (mkF m 76 #[.val (.long q0_0), .second, .val (.long q0_1), .second, .val (.long q0_2), .second, .val (.long q0_3), .second, .val (.int p0_4), .val (.int v3), .val (.int v7), .val (.int v11), .val (.int v15), .val (.long v19), .second, .unset, .unset, .unset, .unset, .unset, .unset, .unset, .unset, .unset, .unset] [(.long q0_1)])) _
      refine XS.goto X0.here hx rfl (pc0 := 76) (pc' := 81) rfl (hb hby at_76) (by decide) (by decide) ?_
      rw [show v23 = q0_1 from hv23.trans (by rw [if_neg hc72_22])] at k
      exact k
  obtain ⟨b25, g25⟩ : ∃ z, z = h0.size := ⟨_, rfl⟩
  obtain ⟨T25, h25, X25, e25, E25, A25, D25, -, st25⟩ := newO X0 hx hZ hown (hw _ (List.mem_of_getElem? (i := 0) rfl)) (hw _ (List.mem_of_getElem? (i := 1) rfl)) (hw _ (List.mem_of_getElem? (i := 2) rfl)) e0 (g := (mkF m 83 #[.val (.long q0_0), .second, .val (.long q0_1), .second, .val (.long q0_2), .second, .val (.long q0_3), .second, .val (.int p0_4), .val (.int v3), .val (.int v7), .val (.int v11), .val (.int v15), .val (.long v19), .second, .val (.long v23), .second, .unset, .unset, .unset, .unset, .unset, .unset, .unset, .unset] [])) rfl (hb hby at_83) (by decide) (by decide)
  rw [← g25] at A25 D25 st25
  have gg25 : n0 ≤ b25 := Nat.le_trans Z0 (Nat.le_of_eq g25.symm)
  have Zs25 : n0 ≤ h25.size := Nat.le_trans Z0 E25.1
  have F26 : Fld Z h25 b25 "com/example/batchrake/batchrake/Inode" "device" "J" (.long (0 : Int64)) := D25 (Or.inr (hw _ (List.mem_of_getElem? (i := 10) rfl))) (ty := .long) (by decide)
  have F27 : Fld Z h25 b25 "com/example/batchrake/batchrake/Inode" "number" "J" (.long (0 : Int64)) := D25 (Or.inr (hw _ (List.mem_of_getElem? (i := 12) rfl))) (ty := .long) (by decide)
  have F28 : Fld Z h25 b25 "com/example/batchrake/batchrake/Inode" "directory" "Z" (.int (0 : Int32)) := D25 (Or.inr (hw _ (List.mem_of_getElem? (i := 14) rfl))) (ty := .boolean) (by decide)
  obtain ⟨_, _, ⟨T29, L29, k29, n29⟩, -, X29, ⟨Lc29, hQ29, l29, y29, z29⟩, st29⟩ := X25.specialBack hx (y := (⟨"com/example/batchrake/batchrake/Inode", "<init>", "(JJZ)V"⟩ : MethodName)) rfl hown (mvT hZ (hw _ (List.mem_of_getElem? (i := 3) rfl))) (mvT hZ (hw _ (List.mem_of_getElem? (i := 4) rfl))) (mvT hZ (hw _ (List.mem_of_getElem? (i := 5) rfl))) (by decide) (backOf (W := 1) (rm1 l Z a0 hw [] b25 q0_0 q0_1 v3 h25 n0 Zs25 A25 F26 F27 F28 gg25) hZ (hw _ (List.mem_of_getElem? (i := 5) rfl)) (hw _ (List.mem_of_getElem? (i := 2) rfl)) (by decide) (by decide)) (g := (mkF m 91 #[.val (.long q0_0), .second, .val (.long q0_1), .second, .val (.long q0_2), .second, .val (.long q0_3), .second, .val (.int p0_4), .val (.int v3), .val (.int v7), .val (.int v11), .val (.int v15), .val (.long v19), .second, .val (.long v23), .second, .unset, .unset, .unset, .unset, .unset, .unset, .unset, .unset] [(.int v3), (.long q0_1), (.long q0_0), (.ref b25), (.ref b25)])) rfl (by rw [hml]; rfl) (Steps.refl _) (a := b25) (argsL := [(.long q0_0), (.long q0_1), (.int v3)]) (rest := [(.ref b25)]) (lenOf pd_0 rfl) rfl (by show 2 * 0 + _ ≤ _; exact Nat.le_of_eq rfl) (hb hby at_91) (fun _ _ => ⟨rfl, e25, (by decide : 1 + 0 ≤ _), (by decide : 3 + 0 ≤ _)⟩)
  dsimp only [Pt.U, Pt.locs, Pt.cells, Pt.slots] at X29 l29 y29 z29 st29 hQ29
  subst l29 y29 z29
  obtain ⟨rfl, N29q, Kc29, G29_0, G29_1, G29_2⟩ := hQ29
  have Zs29 : n0 ≤ T29.heap.size := Nat.le_trans Zs25 Kc29.1
  have N29 := Fr.app N0 N29q
  obtain ⟨b31, g31⟩ : ∃ z, z = T29.heap.size := ⟨_, rfl⟩
  obtain ⟨T31, h31, X31, e31, E31, A31, D31, -, st31⟩ := newO X29 hx hZ hown (hw _ (List.mem_of_getElem? (i := 0) rfl)) (hw _ (List.mem_of_getElem? (i := 1) rfl)) (hw _ (List.mem_of_getElem? (i := 2) rfl)) rfl (g := (mkF m 96 #[.val (.long q0_0), .second, .val (.long q0_1), .second, .val (.long q0_2), .second, .val (.long q0_3), .second, .val (.int p0_4), .val (.int v3), .val (.int v7), .val (.int v11), .val (.int v15), .val (.long v19), .second, .val (.long v23), .second, .val (.ref b25), .unset, .unset, .unset, .unset, .unset, .unset, .unset] [])) rfl (hb hby at_96) (by decide) (by decide)
  rw [← g31] at A31 D31 st31
  have ne32 : b25 ≠ b31 := Nat.ne_of_lt (Nat.lt_of_lt_of_le G29_0.lt (Nat.le_of_eq g31.symm))
  have gg31 : n0 ≤ b31 := Nat.le_trans Zs29 (Nat.le_of_eq g31.symm)
  have Zs31 : n0 ≤ h31.size := Nat.le_trans Zs29 E31.1
  have F33 : Exa Z h31 b25 "com/example/batchrake/batchrake/Inode" := G29_0.ext E31
  have F34 : Fld Z h31 b25 "com/example/batchrake/batchrake/Inode" "device" "J" (.long q0_0) := G29_1.ext E31
  have F35 : Fld Z h31 b25 "com/example/batchrake/batchrake/Inode" "number" "J" (.long q0_1) := G29_2.ext E31
  have F36 : Fld Z h31 b31 "com/example/batchrake/batchrake/Inode" "device" "J" (.long (0 : Int64)) := D31 (Or.inr (hw _ (List.mem_of_getElem? (i := 10) rfl))) (ty := .long) (by decide)
  have F37 : Fld Z h31 b31 "com/example/batchrake/batchrake/Inode" "number" "J" (.long (0 : Int64)) := D31 (Or.inr (hw _ (List.mem_of_getElem? (i := 12) rfl))) (ty := .long) (by decide)
  have F38 : Fld Z h31 b31 "com/example/batchrake/batchrake/Inode" "directory" "Z" (.int (0 : Int32)) := D31 (Or.inr (hw _ (List.mem_of_getElem? (i := 14) rfl))) (ty := .boolean) (by decide)
  obtain ⟨_, _, ⟨T39, L39, k39, n39⟩, -, X39, ⟨Lc39, hQ39, l39, y39, z39⟩, st39⟩ := X31.specialBack hx (y := (⟨"com/example/batchrake/batchrake/Inode", "<init>", "(JJZ)V"⟩ : MethodName)) rfl hown (mvT hZ (hw _ (List.mem_of_getElem? (i := 3) rfl))) (mvT hZ (hw _ (List.mem_of_getElem? (i := 4) rfl))) (mvT hZ (hw _ (List.mem_of_getElem? (i := 5) rfl))) (by decide) (backOf (W := 1) (rm1 l Z a0 hw [] b31 v19 v23 v7 h31 n0 Zs31 A31 F36 F37 F38 gg31) hZ (hw _ (List.mem_of_getElem? (i := 5) rfl)) (hw _ (List.mem_of_getElem? (i := 2) rfl)) (by decide) (by decide)) (g := (mkF m 106 #[.val (.long q0_0), .second, .val (.long q0_1), .second, .val (.long q0_2), .second, .val (.long q0_3), .second, .val (.int p0_4), .val (.int v3), .val (.int v7), .val (.int v11), .val (.int v15), .val (.long v19), .second, .val (.long v23), .second, .val (.ref b25), .unset, .unset, .unset, .unset, .unset, .unset, .unset] [(.int v7), (.long v23), (.long v19), (.ref b31), (.ref b31)])) rfl (by rw [hml]; rfl) (Steps.refl _) (a := b31) (argsL := [(.long v19), (.long v23), (.int v7)]) (rest := [(.ref b31)]) (lenOf pd_0 rfl) rfl (by show 2 * 0 + _ ≤ _; exact Nat.le_of_eq rfl) (hb hby at_106) (fun _ _ => ⟨rfl, e31, (by decide : 2 + 0 ≤ _), (by decide : 6 + 0 ≤ _)⟩)
  dsimp only [Pt.U, Pt.locs, Pt.cells, Pt.slots] at X39 l39 y39 z39 st39 hQ39
  subst l39 y39 z39
  obtain ⟨rfl, N39q, Kc39, G39_0, G39_1, G39_2⟩ := hQ39
  have Zs39 : n0 ≤ T39.heap.size := Nat.le_trans Zs31 Kc39.1
  have F40 : Exa Z T39.heap b25 "com/example/batchrake/batchrake/Inode" := F33.keep Kc39
  have F41 : Fld Z T39.heap b25 "com/example/batchrake/batchrake/Inode" "device" "J" (.long q0_0) := F34.keep Kc39 (ninS ne32 nin0)
  have F42 : Fld Z T39.heap b25 "com/example/batchrake/batchrake/Inode" "number" "J" (.long q0_1) := F35.keep Kc39 (ninS ne32 nin0)
  have N39 := Fr.app N29 N39q
  have k44 : ∀ t, Steps p.tables e below (T39.setTop (mkF m 113 #[.val (.long q0_0), .second, .val (.long q0_1), .second, .val (.long q0_2), .second, .val (.long q0_3), .second, .val (.int p0_4), .val (.int v3), .val (.int v7), .val (.int v11), .val (.int v15), .val (.long v19), .second, .val (.long v23), .second, .val (.ref b25), .val (.ref b31), .unset, .unset, .unset, .unset, .unset, .unset] [(.int v11)])) t → Steps p.tables e below (s₁.setTop (entryFrame m #[(.long q0_0), (.long q0_1), (.long q0_2), (.long q0_3), (.int p0_4)] maxLocals)) t := by
    intro t k
    refine k24 t ?_
    show Steps p.tables e below (s₁.setTop (mkF m 81 #[.val (.long q0_0), .second, .val (.long q0_1), .second, .val (.long q0_2), .second, .val (.long q0_3), .second, .val (.int p0_4), .val (.int v3), .val (.int v7), .val (.int v11), .val (.int v15), .val (.long v19), .second, .unset, .unset, .unset, .unset, .unset, .unset, .unset, .unset, .unset, .unset] [(.long v23)])) _
    refine XS.lstore X0.here hx rfl (hb hby at_81) rfl (l' := #[.val (.long q0_0), .second, .val (.long q0_1), .second, .val (.long q0_2), .second, .val (.long q0_3), .second, .val (.int p0_4), .val (.int v3), .val (.int v7), .val (.int v11), .val (.int v15), .val (.long v19), .second, .val (.long v23), .second, .unset, .unset, .unset, .unset, .unset, .unset, .unset, .unset]) rfl ?_
    show Steps p.tables e below (s₁.setTop (mkF m 83 #[.val (.long q0_0), .second, .val (.long q0_1), .second, .val (.long q0_2), .second, .val (.long q0_3), .second, .val (.int p0_4), .val (.int v3), .val (.int v7), .val (.int v11), .val (.int v15), .val (.long v19), .second, .val (.long v23), .second, .unset, .unset, .unset, .unset, .unset, .unset, .unset, .unset] [])) _
    refine st25 _ ?_
    show Steps p.tables e below (T25.setTop (mkF m 86 #[.val (.long q0_0), .second, .val (.long q0_1), .second, .val (.long q0_2), .second, .val (.long q0_3), .second, .val (.int p0_4), .val (.int v3), .val (.int v7), .val (.int v11), .val (.int v15), .val (.long v19), .second, .val (.long v23), .second, .unset, .unset, .unset, .unset, .unset, .unset, .unset, .unset] [(.ref b25)])) _
    refine XS.dup X25.here hx rfl (hb hby at_86) rfl rfl ?_
    show Steps p.tables e below (T25.setTop (mkF m 87 #[.val (.long q0_0), .second, .val (.long q0_1), .second, .val (.long q0_2), .second, .val (.long q0_3), .second, .val (.int p0_4), .val (.int v3), .val (.int v7), .val (.int v11), .val (.int v15), .val (.long v19), .second, .val (.long v23), .second, .unset, .unset, .unset, .unset, .unset, .unset, .unset, .unset] [(.ref b25), (.ref b25)])) _
    refine XS.lloadN X25.here hx rfl (hb hby at_87) rfl ?_
    show Steps p.tables e below (T25.setTop (mkF m 88 #[.val (.long q0_0), .second, .val (.long q0_1), .second, .val (.long q0_2), .second, .val (.long q0_3), .second, .val (.int p0_4), .val (.int v3), .val (.int v7), .val (.int v11), .val (.int v15), .val (.long v19), .second, .val (.long v23), .second, .unset, .unset, .unset, .unset, .unset, .unset, .unset, .unset] [(.long q0_0), (.ref b25), (.ref b25)])) _
    refine XS.lloadN X25.here hx rfl (hb hby at_88) rfl ?_
    show Steps p.tables e below (T25.setTop (mkF m 89 #[.val (.long q0_0), .second, .val (.long q0_1), .second, .val (.long q0_2), .second, .val (.long q0_3), .second, .val (.int p0_4), .val (.int v3), .val (.int v7), .val (.int v11), .val (.int v15), .val (.long v19), .second, .val (.long v23), .second, .unset, .unset, .unset, .unset, .unset, .unset, .unset, .unset] [(.long q0_1), (.long q0_0), (.ref b25), (.ref b25)])) _
    refine XS.iload X25.here hx rfl (hb hby at_89) rfl ?_
    show Steps p.tables e below (T25.setTop (mkF m 91 #[.val (.long q0_0), .second, .val (.long q0_1), .second, .val (.long q0_2), .second, .val (.long q0_3), .second, .val (.int p0_4), .val (.int v3), .val (.int v7), .val (.int v11), .val (.int v15), .val (.long v19), .second, .val (.long v23), .second, .unset, .unset, .unset, .unset, .unset, .unset, .unset, .unset] [(.int v3), (.long q0_1), (.long q0_0), (.ref b25), (.ref b25)])) _
    refine st29.trans ?_
    show Steps p.tables e below (T29.setTop (mkF m 94 #[.val (.long q0_0), .second, .val (.long q0_1), .second, .val (.long q0_2), .second, .val (.long q0_3), .second, .val (.int p0_4), .val (.int v3), .val (.int v7), .val (.int v11), .val (.int v15), .val (.long v19), .second, .val (.long v23), .second, .unset, .unset, .unset, .unset, .unset, .unset, .unset, .unset] [(.ref b25)])) _
    refine XS.astore X29.here hx rfl (hb hby at_94) rfl rfl (l' := #[.val (.long q0_0), .second, .val (.long q0_1), .second, .val (.long q0_2), .second, .val (.long q0_3), .second, .val (.int p0_4), .val (.int v3), .val (.int v7), .val (.int v11), .val (.int v15), .val (.long v19), .second, .val (.long v23), .second, .val (.ref b25), .unset, .unset, .unset, .unset, .unset, .unset, .unset]) rfl ?_
    show Steps p.tables e below (T29.setTop (mkF m 96 #[.val (.long q0_0), .second, .val (.long q0_1), .second, .val (.long q0_2), .second, .val (.long q0_3), .second, .val (.int p0_4), .val (.int v3), .val (.int v7), .val (.int v11), .val (.int v15), .val (.long v19), .second, .val (.long v23), .second, .val (.ref b25), .unset, .unset, .unset, .unset, .unset, .unset, .unset] [])) _
    refine st31 _ ?_
    show Steps p.tables e below (T31.setTop (mkF m 99 #[.val (.long q0_0), .second, .val (.long q0_1), .second, .val (.long q0_2), .second, .val (.long q0_3), .second, .val (.int p0_4), .val (.int v3), .val (.int v7), .val (.int v11), .val (.int v15), .val (.long v19), .second, .val (.long v23), .second, .val (.ref b25), .unset, .unset, .unset, .unset, .unset, .unset, .unset] [(.ref b31)])) _
    refine XS.dup X31.here hx rfl (hb hby at_99) rfl rfl ?_
    show Steps p.tables e below (T31.setTop (mkF m 100 #[.val (.long q0_0), .second, .val (.long q0_1), .second, .val (.long q0_2), .second, .val (.long q0_3), .second, .val (.int p0_4), .val (.int v3), .val (.int v7), .val (.int v11), .val (.int v15), .val (.long v19), .second, .val (.long v23), .second, .val (.ref b25), .unset, .unset, .unset, .unset, .unset, .unset, .unset] [(.ref b31), (.ref b31)])) _
    refine XS.lload X31.here hx rfl (hb hby at_100) rfl ?_
    show Steps p.tables e below (T31.setTop (mkF m 102 #[.val (.long q0_0), .second, .val (.long q0_1), .second, .val (.long q0_2), .second, .val (.long q0_3), .second, .val (.int p0_4), .val (.int v3), .val (.int v7), .val (.int v11), .val (.int v15), .val (.long v19), .second, .val (.long v23), .second, .val (.ref b25), .unset, .unset, .unset, .unset, .unset, .unset, .unset] [(.long v19), (.ref b31), (.ref b31)])) _
    refine XS.lload X31.here hx rfl (hb hby at_102) rfl ?_
    show Steps p.tables e below (T31.setTop (mkF m 104 #[.val (.long q0_0), .second, .val (.long q0_1), .second, .val (.long q0_2), .second, .val (.long q0_3), .second, .val (.int p0_4), .val (.int v3), .val (.int v7), .val (.int v11), .val (.int v15), .val (.long v19), .second, .val (.long v23), .second, .val (.ref b25), .unset, .unset, .unset, .unset, .unset, .unset, .unset] [(.long v23), (.long v19), (.ref b31), (.ref b31)])) _
    refine XS.iload X31.here hx rfl (hb hby at_104) rfl ?_
    show Steps p.tables e below (T31.setTop (mkF m 106 #[.val (.long q0_0), .second, .val (.long q0_1), .second, .val (.long q0_2), .second, .val (.long q0_3), .second, .val (.int p0_4), .val (.int v3), .val (.int v7), .val (.int v11), .val (.int v15), .val (.long v19), .second, .val (.long v23), .second, .val (.ref b25), .unset, .unset, .unset, .unset, .unset, .unset, .unset] [(.int v7), (.long v23), (.long v19), (.ref b31), (.ref b31)])) _
    refine st39.trans ?_
    show Steps p.tables e below (T39.setTop (mkF m 109 #[.val (.long q0_0), .second, .val (.long q0_1), .second, .val (.long q0_2), .second, .val (.long q0_3), .second, .val (.int p0_4), .val (.int v3), .val (.int v7), .val (.int v11), .val (.int v15), .val (.long v19), .second, .val (.long v23), .second, .val (.ref b25), .unset, .unset, .unset, .unset, .unset, .unset, .unset] [(.ref b31)])) _
    refine XS.astore X39.here hx rfl (hb hby at_109) rfl rfl (l' := #[.val (.long q0_0), .second, .val (.long q0_1), .second, .val (.long q0_2), .second, .val (.long q0_3), .second, .val (.int p0_4), .val (.int v3), .val (.int v7), .val (.int v11), .val (.int v15), .val (.long v19), .second, .val (.long v23), .second, .val (.ref b25), .val (.ref b31), .unset, .unset, .unset, .unset, .unset, .unset]) rfl ?_
    show Steps p.tables e below (T39.setTop (mkF m 111 #[.val (.long q0_0), .second, .val (.long q0_1), .second, .val (.long q0_2), .second, .val (.long q0_3), .second, .val (.int p0_4), .val (.int v3), .val (.int v7), .val (.int v11), .val (.int v15), .val (.long v19), .second, .val (.long v23), .second, .val (.ref b25), .val (.ref b31), .unset, .unset, .unset, .unset, .unset, .unset] [])) _
    refine XS.iload X39.here hx rfl (hb hby at_111) rfl ?_
    exact k
  obtain ⟨v47, hv47⟩ : ∃ z, z = (if v11 = (0 : Int32) then (if q0_2 = q0_0 then (1 : Int32) else (0 : Int32)) else (1 : Int32)) := ⟨_, rfl⟩
  have k48 : ∀ t, Steps p.tables e below (T39.setTop (mkF m 128 #[.val (.long q0_0), .second, .val (.long q0_1), .second, .val (.long q0_2), .second, .val (.long q0_3), .second, .val (.int p0_4), .val (.int v3), .val (.int v7), .val (.int v11), .val (.int v15), .val (.long v19), .second, .val (.long v23), .second, .val (.ref b25), .val (.ref b31), .unset, .unset, .unset, .unset, .unset, .unset] [(.int v47)])) t → Steps p.tables e below (s₁.setTop (entryFrame m #[(.long q0_0), (.long q0_1), (.long q0_2), (.long q0_3), (.int p0_4)] maxLocals)) t := by
    intro t k
    refine k44 t ?_
    by_cases hc113_45 : v11 = (0 : Int32)
    · skip
      show Steps p.tables e below (T39.setTop (mkF m 113 #[.val (.long q0_0), .second, .val (.long q0_1), .second, .val (.long q0_2), .second, .val (.long q0_3), .second, .val (.int p0_4), .val (.int v3), .val (.int v7), .val (.int v11), .val (.int v15), .val (.long v19), .second, .val (.long v23), .second, .val (.ref b25), .val (.ref b31), .unset, .unset, .unset, .unset, .unset, .unset] [(.int v11)])) _
      refine XS.ifNo X39.here hx rfl (hb hby at_113) rfl ((if0 _ _).trans (teq hc113_45).2) ?_
      show Steps p.tables e below (T39.setTop (mkF m 116 #[.val (.long q0_0), .second, .val (.long q0_1), .second, .val (.long q0_2), .second, .val (.long q0_3), .second, .val (.int p0_4), .val (.int v3), .val (.int v7), .val (.int v11), .val (.int v15), .val (.long v19), .second, .val (.long v23), .second, .val (.ref b25), .val (.ref b31), .unset, .unset, .unset, .unset, .unset, .unset] [])) _
      refine XS.lload X39.here hx rfl (hb hby at_116) rfl ?_
      show Steps p.tables e below (T39.setTop (mkF m 118 #[.val (.long q0_0), .second, .val (.long q0_1), .second, .val (.long q0_2), .second, .val (.long q0_3), .second, .val (.int p0_4), .val (.int v3), .val (.int v7), .val (.int v11), .val (.int v15), .val (.long v19), .second, .val (.long v23), .second, .val (.ref b25), .val (.ref b31), .unset, .unset, .unset, .unset, .unset, .unset] [(.long q0_2)])) _
      refine XS.lloadN X39.here hx rfl (hb hby at_118) rfl ?_
      show Steps p.tables e below (T39.setTop (mkF m 119 #[.val (.long q0_0), .second, .val (.long q0_1), .second, .val (.long q0_2), .second, .val (.long q0_3), .second, .val (.int p0_4), .val (.int v3), .val (.int v7), .val (.int v11), .val (.int v15), .val (.long v19), .second, .val (.long v23), .second, .val (.ref b25), .val (.ref b31), .unset, .unset, .unset, .unset, .unset, .unset] [(.long q0_0), (.long q0_2)])) _
      refine XS.lcmp X39.here hx rfl (hb hby at_119) rfl ?_
      by_cases hc120_46 : q0_2 = q0_0
      · skip
        show Steps p.tables e below (T39.setTop (mkF m 120 #[.val (.long q0_0), .second, .val (.long q0_1), .second, .val (.long q0_2), .second, .val (.long q0_3), .second, .val (.int p0_4), .val (.int v3), .val (.int v7), .val (.int v11), .val (.int v15), .val (.long v19), .second, .val (.long v23), .second, .val (.ref b25), .val (.ref b31), .unset, .unset, .unset, .unset, .unset, .unset] [(.int (lcmpW q0_2 q0_0))])) _
        refine XS.ifNo X39.here hx rfl (hb hby at_120) rfl ((if0 _ _).trans (teq ((lw_eq _ _).mpr hc120_46)).2) ?_
        show Steps p.tables e below (T39.setTop (mkF m 123 #[.val (.long q0_0), .second, .val (.long q0_1), .second, .val (.long q0_2), .second, .val (.long q0_3), .second, .val (.int p0_4), .val (.int v3), .val (.int v7), .val (.int v11), .val (.int v15), .val (.long v19), .second, .val (.long v23), .second, .val (.ref b25), .val (.ref b31), .unset, .unset, .unset, .unset, .unset, .unset] [])) _
        refine XS.iconst X39.here hx rfl (hb hby at_123) ?_
        show Steps p.tables e below (T39.setTop (mkF m 124 #[.val (.long q0_0), .second, .val (.long q0_1), .second, .val (.long q0_2), .second, .val (.long q0_3), .second, .val (.int p0_4), .val (.int v3), .val (.int v7), .val (.int v11), .val (.int v15), .val (.long v19), .second, .val (.long v23), .second, .val (.ref b25), .val (.ref b31), .unset, .unset, .unset, .unset, .unset, .unset] [(.int (1 : Int32))])) _
        refine XS.goto X39.here hx rfl (pc0 := 124) (pc' := 128) rfl (hb hby at_124) (by decide) (by decide) ?_
        rw [show v47 = (1 : Int32) from hv47.trans (by rw [if_pos hc113_45, if_pos hc120_46])] at k
        exact k
      · skip
        show Steps p.tables e below (T39.setTop (mkF m 120 #[.val (.long q0_0), .second, .val (.long q0_1), .second, .val (.long q0_2), .second, .val (.long q0_3), .second, .val (.int p0_4), .val (.int v3), .val (.int v7), .val (.int v11), .val (.int v15), .val (.long v19), .second, .val (.long v23), .second, .val (.ref b25), .val (.ref b31), .unset, .unset, .unset, .unset, .unset, .unset] [(.int (lcmpW q0_2 q0_0))])) _
        refine XS.ifYes X39.here hx rfl (pc0 := 120) (pc' := 127) rfl (hb hby at_120) rfl ((if0 _ _).trans (feq (fun q => absurd ((lw_eq _ _).mp q) hc120_46)).2) (by decide) (by decide) ?_
        show Steps p.tables e below (T39.setTop (mkF m 127 #[.val (.long q0_0), .second, .val (.long q0_1), .second, .val (.long q0_2), .second, .val (.long q0_3), .second, .val (.int p0_4), .val (.int v3), .val (.int v7), .val (.int v11), .val (.int v15), .val (.long v19), .second, .val (.long v23), .second, .val (.ref b25), .val (.ref b31), .unset, .unset, .unset, .unset, .unset, .unset] [])) _
        refine XS.iconst X39.here hx rfl (hb hby at_127) ?_
        rw [show v47 = (0 : Int32) from hv47.trans (by rw [if_pos hc113_45, if_neg hc120_46])] at k
        exact k
    · skip
      show Steps p.tables e below (T39.setTop (mkF m 113 #[.val (.long q0_0), .second, .val (.long q0_1), .second, .val (.long q0_2), .second, .val (.long q0_3), .second, .val (.int p0_4), .val (.int v3), .val (.int v7), .val (.int v11), .val (.int v15), .val (.long v19), .second, .val (.long v23), .second, .val (.ref b25), .val (.ref b31), .unset, .unset, .unset, .unset, .unset, .unset] [(.int v11)])) _
      refine XS.ifYes X39.here hx rfl (pc0 := 113) (pc' := 123) rfl (hb hby at_113) rfl ((if0 _ _).trans (feq hc113_45).2) (by decide) (by decide) ?_
      show Steps p.tables e below (T39.setTop (mkF m 123 #[.val (.long q0_0), .second, .val (.long q0_1), .second, .val (.long q0_2), .second, .val (.long q0_3), .second, .val (.int p0_4), .val (.int v3), .val (.int v7), .val (.int v11), .val (.int v15), .val (.long v19), .second, .val (.long v23), .second, .val (.ref b25), .val (.ref b31), .unset, .unset, .unset, .unset, .unset, .unset] [])) _
      refine XS.iconst X39.here hx rfl (hb hby at_123) ?_
      show Steps p.tables e below (T39.setTop (mkF m 124 #[.val (.long q0_0), .second, .val (.long q0_1), .second, .val (.long q0_2), .second, .val (.long q0_3), .second, .val (.int p0_4), .val (.int v3), .val (.int v7), .val (.int v11), .val (.int v15), .val (.long v19), .second, .val (.long v23), .second, .val (.ref b25), .val (.ref b31), .unset, .unset, .unset, .unset, .unset, .unset] [(.int (1 : Int32))])) _
      refine XS.goto X39.here hx rfl (pc0 := 124) (pc' := 128) rfl (hb hby at_124) (by decide) (by decide) ?_
      rw [show v47 = (1 : Int32) from hv47.trans (by rw [if_neg hc113_45])] at k
      exact k
  have k49 : ∀ t, Steps p.tables e below (T39.setTop (mkF m 132 #[.val (.long q0_0), .second, .val (.long q0_1), .second, .val (.long q0_2), .second, .val (.long q0_3), .second, .val (.int p0_4), .val (.int v3), .val (.int v7), .val (.int v11), .val (.int v15), .val (.long v19), .second, .val (.long v23), .second, .val (.ref b25), .val (.ref b31), .val (.int v47), .unset, .unset, .unset, .unset, .unset] [(.int v15)])) t → Steps p.tables e below (s₁.setTop (entryFrame m #[(.long q0_0), (.long q0_1), (.long q0_2), (.long q0_3), (.int p0_4)] maxLocals)) t := by
    intro t k
    refine k48 t ?_
    show Steps p.tables e below (T39.setTop (mkF m 128 #[.val (.long q0_0), .second, .val (.long q0_1), .second, .val (.long q0_2), .second, .val (.long q0_3), .second, .val (.int p0_4), .val (.int v3), .val (.int v7), .val (.int v11), .val (.int v15), .val (.long v19), .second, .val (.long v23), .second, .val (.ref b25), .val (.ref b31), .unset, .unset, .unset, .unset, .unset, .unset] [(.int v47)])) _
    refine XS.istore X39.here hx rfl (hb hby at_128) rfl (l' := #[.val (.long q0_0), .second, .val (.long q0_1), .second, .val (.long q0_2), .second, .val (.long q0_3), .second, .val (.int p0_4), .val (.int v3), .val (.int v7), .val (.int v11), .val (.int v15), .val (.long v19), .second, .val (.long v23), .second, .val (.ref b25), .val (.ref b31), .val (.int v47), .unset, .unset, .unset, .unset, .unset]) rfl ?_
    show Steps p.tables e below (T39.setTop (mkF m 130 #[.val (.long q0_0), .second, .val (.long q0_1), .second, .val (.long q0_2), .second, .val (.long q0_3), .second, .val (.int p0_4), .val (.int v3), .val (.int v7), .val (.int v11), .val (.int v15), .val (.long v19), .second, .val (.long v23), .second, .val (.ref b25), .val (.ref b31), .val (.int v47), .unset, .unset, .unset, .unset, .unset] [])) _
    refine XS.iload X39.here hx rfl (hb hby at_130) rfl ?_
    exact k
  obtain ⟨v52, hv52⟩ : ∃ z, z = (if v15 = (0 : Int32) then (if q0_3 = q0_1 then (1 : Int32) else (0 : Int32)) else (1 : Int32)) := ⟨_, rfl⟩
  have k53 : ∀ t, Steps p.tables e below (T39.setTop (mkF m 147 #[.val (.long q0_0), .second, .val (.long q0_1), .second, .val (.long q0_2), .second, .val (.long q0_3), .second, .val (.int p0_4), .val (.int v3), .val (.int v7), .val (.int v11), .val (.int v15), .val (.long v19), .second, .val (.long v23), .second, .val (.ref b25), .val (.ref b31), .val (.int v47), .unset, .unset, .unset, .unset, .unset] [(.int v52)])) t → Steps p.tables e below (s₁.setTop (entryFrame m #[(.long q0_0), (.long q0_1), (.long q0_2), (.long q0_3), (.int p0_4)] maxLocals)) t := by
    intro t k
    refine k49 t ?_
    by_cases hc132_50 : v15 = (0 : Int32)
    · skip
      show Steps p.tables e below (T39.setTop (mkF m 132 #[.val (.long q0_0), .second, .val (.long q0_1), .second, .val (.long q0_2), .second, .val (.long q0_3), .second, .val (.int p0_4), .val (.int v3), .val (.int v7), .val (.int v11), .val (.int v15), .val (.long v19), .second, .val (.long v23), .second, .val (.ref b25), .val (.ref b31), .val (.int v47), .unset, .unset, .unset, .unset, .unset] [(.int v15)])) _
      refine XS.ifNo X39.here hx rfl (hb hby at_132) rfl ((if0 _ _).trans (teq hc132_50).2) ?_
      show Steps p.tables e below (T39.setTop (mkF m 135 #[.val (.long q0_0), .second, .val (.long q0_1), .second, .val (.long q0_2), .second, .val (.long q0_3), .second, .val (.int p0_4), .val (.int v3), .val (.int v7), .val (.int v11), .val (.int v15), .val (.long v19), .second, .val (.long v23), .second, .val (.ref b25), .val (.ref b31), .val (.int v47), .unset, .unset, .unset, .unset, .unset] [])) _
      refine XS.lload X39.here hx rfl (hb hby at_135) rfl ?_
      show Steps p.tables e below (T39.setTop (mkF m 137 #[.val (.long q0_0), .second, .val (.long q0_1), .second, .val (.long q0_2), .second, .val (.long q0_3), .second, .val (.int p0_4), .val (.int v3), .val (.int v7), .val (.int v11), .val (.int v15), .val (.long v19), .second, .val (.long v23), .second, .val (.ref b25), .val (.ref b31), .val (.int v47), .unset, .unset, .unset, .unset, .unset] [(.long q0_3)])) _
      refine XS.lloadN X39.here hx rfl (hb hby at_137) rfl ?_
      show Steps p.tables e below (T39.setTop (mkF m 138 #[.val (.long q0_0), .second, .val (.long q0_1), .second, .val (.long q0_2), .second, .val (.long q0_3), .second, .val (.int p0_4), .val (.int v3), .val (.int v7), .val (.int v11), .val (.int v15), .val (.long v19), .second, .val (.long v23), .second, .val (.ref b25), .val (.ref b31), .val (.int v47), .unset, .unset, .unset, .unset, .unset] [(.long q0_1), (.long q0_3)])) _
      refine XS.lcmp X39.here hx rfl (hb hby at_138) rfl ?_
      by_cases hc139_51 : q0_3 = q0_1
      · skip
        show Steps p.tables e below (T39.setTop (mkF m 139 #[.val (.long q0_0), .second, .val (.long q0_1), .second, .val (.long q0_2), .second, .val (.long q0_3), .second, .val (.int p0_4), .val (.int v3), .val (.int v7), .val (.int v11), .val (.int v15), .val (.long v19), .second, .val (.long v23), .second, .val (.ref b25), .val (.ref b31), .val (.int v47), .unset, .unset, .unset, .unset, .unset] [(.int (lcmpW q0_3 q0_1))])) _
        refine XS.ifNo X39.here hx rfl (hb hby at_139) rfl ((if0 _ _).trans (teq ((lw_eq _ _).mpr hc139_51)).2) ?_
        show Steps p.tables e below (T39.setTop (mkF m 142 #[.val (.long q0_0), .second, .val (.long q0_1), .second, .val (.long q0_2), .second, .val (.long q0_3), .second, .val (.int p0_4), .val (.int v3), .val (.int v7), .val (.int v11), .val (.int v15), .val (.long v19), .second, .val (.long v23), .second, .val (.ref b25), .val (.ref b31), .val (.int v47), .unset, .unset, .unset, .unset, .unset] [])) _
        refine XS.iconst X39.here hx rfl (hb hby at_142) ?_
        show Steps p.tables e below (T39.setTop (mkF m 143 #[.val (.long q0_0), .second, .val (.long q0_1), .second, .val (.long q0_2), .second, .val (.long q0_3), .second, .val (.int p0_4), .val (.int v3), .val (.int v7), .val (.int v11), .val (.int v15), .val (.long v19), .second, .val (.long v23), .second, .val (.ref b25), .val (.ref b31), .val (.int v47), .unset, .unset, .unset, .unset, .unset] [(.int (1 : Int32))])) _
        refine XS.goto X39.here hx rfl (pc0 := 143) (pc' := 147) rfl (hb hby at_143) (by decide) (by decide) ?_
        rw [show v52 = (1 : Int32) from hv52.trans (by rw [if_pos hc132_50, if_pos hc139_51])] at k
        exact k
      · skip
        show Steps p.tables e below (T39.setTop (mkF m 139 #[.val (.long q0_0), .second, .val (.long q0_1), .second, .val (.long q0_2), .second, .val (.long q0_3), .second, .val (.int p0_4), .val (.int v3), .val (.int v7), .val (.int v11), .val (.int v15), .val (.long v19), .second, .val (.long v23), .second, .val (.ref b25), .val (.ref b31), .val (.int v47), .unset, .unset, .unset, .unset, .unset] [(.int (lcmpW q0_3 q0_1))])) _
        refine XS.ifYes X39.here hx rfl (pc0 := 139) (pc' := 146) rfl (hb hby at_139) rfl ((if0 _ _).trans (feq (fun q => absurd ((lw_eq _ _).mp q) hc139_51)).2) (by decide) (by decide) ?_
        show Steps p.tables e below (T39.setTop (mkF m 146 #[.val (.long q0_0), .second, .val (.long q0_1), .second, .val (.long q0_2), .second, .val (.long q0_3), .second, .val (.int p0_4), .val (.int v3), .val (.int v7), .val (.int v11), .val (.int v15), .val (.long v19), .second, .val (.long v23), .second, .val (.ref b25), .val (.ref b31), .val (.int v47), .unset, .unset, .unset, .unset, .unset] [])) _
        refine XS.iconst X39.here hx rfl (hb hby at_146) ?_
        rw [show v52 = (0 : Int32) from hv52.trans (by rw [if_pos hc132_50, if_neg hc139_51])] at k
        exact k
    · skip
      show Steps p.tables e below (T39.setTop (mkF m 132 #[.val (.long q0_0), .second, .val (.long q0_1), .second, .val (.long q0_2), .second, .val (.long q0_3), .second, .val (.int p0_4), .val (.int v3), .val (.int v7), .val (.int v11), .val (.int v15), .val (.long v19), .second, .val (.long v23), .second, .val (.ref b25), .val (.ref b31), .val (.int v47), .unset, .unset, .unset, .unset, .unset] [(.int v15)])) _
      refine XS.ifYes X39.here hx rfl (pc0 := 132) (pc' := 142) rfl (hb hby at_132) rfl ((if0 _ _).trans (feq hc132_50).2) (by decide) (by decide) ?_
      show Steps p.tables e below (T39.setTop (mkF m 142 #[.val (.long q0_0), .second, .val (.long q0_1), .second, .val (.long q0_2), .second, .val (.long q0_3), .second, .val (.int p0_4), .val (.int v3), .val (.int v7), .val (.int v11), .val (.int v15), .val (.long v19), .second, .val (.long v23), .second, .val (.ref b25), .val (.ref b31), .val (.int v47), .unset, .unset, .unset, .unset, .unset] [])) _
      refine XS.iconst X39.here hx rfl (hb hby at_142) ?_
      show Steps p.tables e below (T39.setTop (mkF m 143 #[.val (.long q0_0), .second, .val (.long q0_1), .second, .val (.long q0_2), .second, .val (.long q0_3), .second, .val (.int p0_4), .val (.int v3), .val (.int v7), .val (.int v11), .val (.int v15), .val (.long v19), .second, .val (.long v23), .second, .val (.ref b25), .val (.ref b31), .val (.int v47), .unset, .unset, .unset, .unset, .unset] [(.int (1 : Int32))])) _
      refine XS.goto X39.here hx rfl (pc0 := 143) (pc' := 147) rfl (hb hby at_143) (by decide) (by decide) ?_
      rw [show v52 = (1 : Int32) from hv52.trans (by rw [if_neg hc132_50])] at k
      exact k
  have k54 : ∀ t, Steps p.tables e below (T39.setTop (mkF m 151 #[.val (.long q0_0), .second, .val (.long q0_1), .second, .val (.long q0_2), .second, .val (.long q0_3), .second, .val (.int p0_4), .val (.int v3), .val (.int v7), .val (.int v11), .val (.int v15), .val (.long v19), .second, .val (.long v23), .second, .val (.ref b25), .val (.ref b31), .val (.int v47), .val (.int v52), .unset, .unset, .unset, .unset] [(.int v47)])) t → Steps p.tables e below (s₁.setTop (entryFrame m #[(.long q0_0), (.long q0_1), (.long q0_2), (.long q0_3), (.int p0_4)] maxLocals)) t := by
    intro t k
    refine k53 t ?_
    show Steps p.tables e below (T39.setTop (mkF m 147 #[.val (.long q0_0), .second, .val (.long q0_1), .second, .val (.long q0_2), .second, .val (.long q0_3), .second, .val (.int p0_4), .val (.int v3), .val (.int v7), .val (.int v11), .val (.int v15), .val (.long v19), .second, .val (.long v23), .second, .val (.ref b25), .val (.ref b31), .val (.int v47), .unset, .unset, .unset, .unset, .unset] [(.int v52)])) _
    refine XS.istore X39.here hx rfl (hb hby at_147) rfl (l' := #[.val (.long q0_0), .second, .val (.long q0_1), .second, .val (.long q0_2), .second, .val (.long q0_3), .second, .val (.int p0_4), .val (.int v3), .val (.int v7), .val (.int v11), .val (.int v15), .val (.long v19), .second, .val (.long v23), .second, .val (.ref b25), .val (.ref b31), .val (.int v47), .val (.int v52), .unset, .unset, .unset, .unset]) rfl ?_
    show Steps p.tables e below (T39.setTop (mkF m 149 #[.val (.long q0_0), .second, .val (.long q0_1), .second, .val (.long q0_2), .second, .val (.long q0_3), .second, .val (.int p0_4), .val (.int v3), .val (.int v7), .val (.int v11), .val (.int v15), .val (.long v19), .second, .val (.long v23), .second, .val (.ref b25), .val (.ref b31), .val (.int v47), .val (.int v52), .unset, .unset, .unset, .unset] [])) _
    refine XS.iload X39.here hx rfl (hb hby at_149) rfl ?_
    exact k
  obtain ⟨v57, hv57⟩ : ∃ z, z = (if v47 = (0 : Int32) then (0 : Int32) else (if v52 = (0 : Int32) then (0 : Int32) else (1 : Int32))) := ⟨_, rfl⟩
  have k58 : ∀ t, Steps p.tables e below (T39.setTop (mkF m 164 #[.val (.long q0_0), .second, .val (.long q0_1), .second, .val (.long q0_2), .second, .val (.long q0_3), .second, .val (.int p0_4), .val (.int v3), .val (.int v7), .val (.int v11), .val (.int v15), .val (.long v19), .second, .val (.long v23), .second, .val (.ref b25), .val (.ref b31), .val (.int v47), .val (.int v52), .unset, .unset, .unset, .unset] [(.int v57)])) t → Steps p.tables e below (s₁.setTop (entryFrame m #[(.long q0_0), (.long q0_1), (.long q0_2), (.long q0_3), (.int p0_4)] maxLocals)) t := by
    intro t k
    refine k54 t ?_
    by_cases hc151_55 : v47 = (0 : Int32)
    · skip
      show Steps p.tables e below (T39.setTop (mkF m 151 #[.val (.long q0_0), .second, .val (.long q0_1), .second, .val (.long q0_2), .second, .val (.long q0_3), .second, .val (.int p0_4), .val (.int v3), .val (.int v7), .val (.int v11), .val (.int v15), .val (.long v19), .second, .val (.long v23), .second, .val (.ref b25), .val (.ref b31), .val (.int v47), .val (.int v52), .unset, .unset, .unset, .unset] [(.int v47)])) _
      refine XS.ifYes X39.here hx rfl (pc0 := 151) (pc' := 163) rfl (hb hby at_151) rfl ((if0 _ _).trans (teq hc151_55).1) (by decide) (by decide) ?_
      show Steps p.tables e below (T39.setTop (mkF m 163 #[.val (.long q0_0), .second, .val (.long q0_1), .second, .val (.long q0_2), .second, .val (.long q0_3), .second, .val (.int p0_4), .val (.int v3), .val (.int v7), .val (.int v11), .val (.int v15), .val (.long v19), .second, .val (.long v23), .second, .val (.ref b25), .val (.ref b31), .val (.int v47), .val (.int v52), .unset, .unset, .unset, .unset] [])) _
      refine XS.iconst X39.here hx rfl (hb hby at_163) ?_
      rw [show v57 = (0 : Int32) from hv57.trans (by rw [if_pos hc151_55])] at k
      exact k
    · skip
      show Steps p.tables e below (T39.setTop (mkF m 151 #[.val (.long q0_0), .second, .val (.long q0_1), .second, .val (.long q0_2), .second, .val (.long q0_3), .second, .val (.int p0_4), .val (.int v3), .val (.int v7), .val (.int v11), .val (.int v15), .val (.long v19), .second, .val (.long v23), .second, .val (.ref b25), .val (.ref b31), .val (.int v47), .val (.int v52), .unset, .unset, .unset, .unset] [(.int v47)])) _
      refine XS.ifNo X39.here hx rfl (hb hby at_151) rfl ((if0 _ _).trans (feq hc151_55).1) ?_
      show Steps p.tables e below (T39.setTop (mkF m 154 #[.val (.long q0_0), .second, .val (.long q0_1), .second, .val (.long q0_2), .second, .val (.long q0_3), .second, .val (.int p0_4), .val (.int v3), .val (.int v7), .val (.int v11), .val (.int v15), .val (.long v19), .second, .val (.long v23), .second, .val (.ref b25), .val (.ref b31), .val (.int v47), .val (.int v52), .unset, .unset, .unset, .unset] [])) _
      refine XS.iload X39.here hx rfl (hb hby at_154) rfl ?_
      by_cases hc156_56 : v52 = (0 : Int32)
      · skip
        show Steps p.tables e below (T39.setTop (mkF m 156 #[.val (.long q0_0), .second, .val (.long q0_1), .second, .val (.long q0_2), .second, .val (.long q0_3), .second, .val (.int p0_4), .val (.int v3), .val (.int v7), .val (.int v11), .val (.int v15), .val (.long v19), .second, .val (.long v23), .second, .val (.ref b25), .val (.ref b31), .val (.int v47), .val (.int v52), .unset, .unset, .unset, .unset] [(.int v52)])) _
        refine XS.ifYes X39.here hx rfl (pc0 := 156) (pc' := 163) rfl (hb hby at_156) rfl ((if0 _ _).trans (teq hc156_56).1) (by decide) (by decide) ?_
        show Steps p.tables e below (T39.setTop (mkF m 163 #[.val (.long q0_0), .second, .val (.long q0_1), .second, .val (.long q0_2), .second, .val (.long q0_3), .second, .val (.int p0_4), .val (.int v3), .val (.int v7), .val (.int v11), .val (.int v15), .val (.long v19), .second, .val (.long v23), .second, .val (.ref b25), .val (.ref b31), .val (.int v47), .val (.int v52), .unset, .unset, .unset, .unset] [])) _
        refine XS.iconst X39.here hx rfl (hb hby at_163) ?_
        rw [show v57 = (0 : Int32) from hv57.trans (by rw [if_neg hc151_55, if_pos hc156_56])] at k
        exact k
      · skip
        show Steps p.tables e below (T39.setTop (mkF m 156 #[.val (.long q0_0), .second, .val (.long q0_1), .second, .val (.long q0_2), .second, .val (.long q0_3), .second, .val (.int p0_4), .val (.int v3), .val (.int v7), .val (.int v11), .val (.int v15), .val (.long v19), .second, .val (.long v23), .second, .val (.ref b25), .val (.ref b31), .val (.int v47), .val (.int v52), .unset, .unset, .unset, .unset] [(.int v52)])) _
        refine XS.ifNo X39.here hx rfl (hb hby at_156) rfl ((if0 _ _).trans (feq hc156_56).1) ?_
        show Steps p.tables e below (T39.setTop (mkF m 159 #[.val (.long q0_0), .second, .val (.long q0_1), .second, .val (.long q0_2), .second, .val (.long q0_3), .second, .val (.int p0_4), .val (.int v3), .val (.int v7), .val (.int v11), .val (.int v15), .val (.long v19), .second, .val (.long v23), .second, .val (.ref b25), .val (.ref b31), .val (.int v47), .val (.int v52), .unset, .unset, .unset, .unset] [])) _
        refine XS.iconst X39.here hx rfl (hb hby at_159) ?_
        show Steps p.tables e below (T39.setTop (mkF m 160 #[.val (.long q0_0), .second, .val (.long q0_1), .second, .val (.long q0_2), .second, .val (.long q0_3), .second, .val (.int p0_4), .val (.int v3), .val (.int v7), .val (.int v11), .val (.int v15), .val (.long v19), .second, .val (.long v23), .second, .val (.ref b25), .val (.ref b31), .val (.int v47), .val (.int v52), .unset, .unset, .unset, .unset] [(.int (1 : Int32))])) _
        refine XS.goto X39.here hx rfl (pc0 := 160) (pc' := 164) rfl (hb hby at_160) (by decide) (by decide) ?_
        rw [show v57 = (1 : Int32) from hv57.trans (by rw [if_neg hc151_55, if_neg hc156_56])] at k
        exact k
  obtain ⟨cq59, kq59, q59a, q59b, q59c⟩ := isOf hZ rfl F40
  obtain ⟨_, _, ⟨T59, L59, k59, n59⟩, -, X59, ⟨Lc59, hQ59, l59, y59, z59⟩, st59⟩ := X39.virtualBack hx (y := (⟨"com/example/batchrake/batchrake/Inode", "isSame", "(Lcom/example/batchrake/batchrake/Inode;)Z"⟩ : MethodName)) (z := (⟨"com/example/batchrake/batchrake/Inode", "isSame", "(Lcom/example/batchrake/batchrake/Inode;)Z"⟩ : MethodName)) hown (mvT hZ (hw _ (List.mem_of_getElem? (i := 15) rfl))) (mvT hZ (hw _ (List.mem_of_getElem? (i := 16) rfl))) (notFace_of_selects (args := #[]) (mvT hZ (hw _ (List.mem_of_getElem? (i := 18) rfl)))) (mvT hZ (hw _ (List.mem_of_getElem? (i := 18) rfl))) (mvT hZ (hw _ (List.mem_of_getElem? (i := 17) rfl))) (by decide) (backOf (W := 0) (rm2 l Z a0 hw [] b25 b31 q0_0 q0_1 v19 v23 T39.heap n0 Zs39 F41 F42 G39_1 G39_2) hZ (hw _ (List.mem_of_getElem? (i := 19) rfl)) (hw _ (List.mem_of_getElem? (i := 2) rfl)) (by decide) (by decide)) q59a q59c (g := (mkF m 170 #[.val (.long q0_0), .second, .val (.long q0_1), .second, .val (.long q0_2), .second, .val (.long q0_3), .second, .val (.int p0_4), .val (.int v3), .val (.int v7), .val (.int v11), .val (.int v15), .val (.long v19), .second, .val (.long v23), .second, .val (.ref b25), .val (.ref b31), .val (.int v47), .val (.int v52), .val (.int v57), .unset, .unset, .unset] [(.ref b31), (.ref b25)])) rfl (by rw [hml]; rfl) (Steps.refl _) (argsL := [(.ref b31)]) (rest := []) (lenOf pd_1 rfl) rfl (by show 2 * 0 + _ ≤ _; exact Nat.le_of_eq rfl) (hb hby at_170) (fun _ _ => ⟨rfl, rfl, (by decide : 2 + 0 ≤ _), (by decide : 6 + 0 ≤ _)⟩)
  dsimp only [Pt.U, Pt.locs, Pt.cells, Pt.slots] at X59 l59 y59 z59 st59 hQ59
  subst l59 y59 z59
  obtain ⟨rfl, N59q, eh59⟩ := hQ59
  have N59 := Fr.app N39 N59q
  obtain ⟨cq60, kq60, q60a, q60b, q60c⟩ := isOf hZ eh59 G39_0
  obtain ⟨_, _, ⟨T60, L60, k60, n60⟩, -, X60, ⟨Lc60, hQ60, l60, y60, z60⟩, st60⟩ := X59.virtualBack hx (y := (⟨"com/example/batchrake/batchrake/Inode", "isSame", "(Lcom/example/batchrake/batchrake/Inode;)Z"⟩ : MethodName)) (z := (⟨"com/example/batchrake/batchrake/Inode", "isSame", "(Lcom/example/batchrake/batchrake/Inode;)Z"⟩ : MethodName)) hown (mvT hZ (hw _ (List.mem_of_getElem? (i := 15) rfl))) (mvT hZ (hw _ (List.mem_of_getElem? (i := 16) rfl))) (notFace_of_selects (args := #[]) (mvT hZ (hw _ (List.mem_of_getElem? (i := 18) rfl)))) (mvT hZ (hw _ (List.mem_of_getElem? (i := 18) rfl))) (mvT hZ (hw _ (List.mem_of_getElem? (i := 17) rfl))) (by decide) (backOf (W := 0) (rm2 l Z a0 hw [] b31 b25 v19 v23 q0_0 q0_1 T39.heap n0 Zs39 G39_1 G39_2 F41 F42) hZ (hw _ (List.mem_of_getElem? (i := 19) rfl)) (hw _ (List.mem_of_getElem? (i := 2) rfl)) (by decide) (by decide)) q60a q60c (g := (mkF m 179 #[.val (.long q0_0), .second, .val (.long q0_1), .second, .val (.long q0_2), .second, .val (.long q0_3), .second, .val (.int p0_4), .val (.int v3), .val (.int v7), .val (.int v11), .val (.int v15), .val (.long v19), .second, .val (.long v23), .second, .val (.ref b25), .val (.ref b31), .val (.int v47), .val (.int v52), .val (.int v57), .val (.int (own_same q0_0 q0_1 v19 v23)), .unset, .unset] [(.ref b25), (.ref b31)])) rfl (by rw [hml]; rfl) (Steps.refl _) (argsL := [(.ref b25)]) (rest := []) (lenOf pd_1 rfl) rfl (by show 2 * 0 + _ ≤ _; exact Nat.le_of_eq rfl) (hb hby at_179) (fun _ _ => ⟨rfl, eh59, (by decide : 2 + 0 ≤ _), (by decide : 6 + 0 ≤ _)⟩)
  dsimp only [Pt.U, Pt.locs, Pt.cells, Pt.slots] at X60 l60 y60 z60 st60 hQ60
  subst l60 y60 z60
  obtain ⟨rfl, N60q, eh60⟩ := hQ60
  have N60 := Fr.app N59 N60q
  obtain ⟨cq61, kq61, q61a, q61b, q61c⟩ := isOf hZ eh60 F40
  obtain ⟨_, _, ⟨T61, L61, k61, n61⟩, -, X61, ⟨Lc61, hQ61, l61, y61, z61⟩, st61⟩ := X60.virtualBack hx (y := (⟨"com/example/batchrake/batchrake/Inode", "isSame", "(Lcom/example/batchrake/batchrake/Inode;)Z"⟩ : MethodName)) (z := (⟨"com/example/batchrake/batchrake/Inode", "isSame", "(Lcom/example/batchrake/batchrake/Inode;)Z"⟩ : MethodName)) hown (mvT hZ (hw _ (List.mem_of_getElem? (i := 15) rfl))) (mvT hZ (hw _ (List.mem_of_getElem? (i := 16) rfl))) (notFace_of_selects (args := #[]) (mvT hZ (hw _ (List.mem_of_getElem? (i := 18) rfl)))) (mvT hZ (hw _ (List.mem_of_getElem? (i := 18) rfl))) (mvT hZ (hw _ (List.mem_of_getElem? (i := 17) rfl))) (by decide) (backOf (W := 0) (rm2 l Z a0 hw [] b25 b25 q0_0 q0_1 q0_0 q0_1 T39.heap n0 Zs39 F41 F42 F41 F42) hZ (hw _ (List.mem_of_getElem? (i := 19) rfl)) (hw _ (List.mem_of_getElem? (i := 2) rfl)) (by decide) (by decide)) q61a q61c (g := (mkF m 188 #[.val (.long q0_0), .second, .val (.long q0_1), .second, .val (.long q0_2), .second, .val (.long q0_3), .second, .val (.int p0_4), .val (.int v3), .val (.int v7), .val (.int v11), .val (.int v15), .val (.long v19), .second, .val (.long v23), .second, .val (.ref b25), .val (.ref b31), .val (.int v47), .val (.int v52), .val (.int v57), .val (.int (own_same q0_0 q0_1 v19 v23)), .val (.int (own_same v19 v23 q0_0 q0_1)), .unset] [(.ref b25), (.ref b25)])) rfl (by rw [hml]; rfl) (Steps.refl _) (argsL := [(.ref b25)]) (rest := []) (lenOf pd_1 rfl) rfl (by show 2 * 0 + _ ≤ _; exact Nat.le_of_eq rfl) (hb hby at_188) (fun _ _ => ⟨rfl, eh60, (by decide : 2 + 0 ≤ _), (by decide : 6 + 0 ≤ _)⟩)
  dsimp only [Pt.U, Pt.locs, Pt.cells, Pt.slots] at X61 l61 y61 z61 st61 hQ61
  subst l61 y61 z61
  obtain ⟨rfl, N61q, eh61⟩ := hQ61
  have N61 := Fr.app N60 N61q
  have k62 : ∀ t, Steps p.tables e below (T61.setTop (mkF m 217 #[.val (.long q0_0), .second, .val (.long q0_1), .second, .val (.long q0_2), .second, .val (.long q0_3), .second, .val (.int p0_4), .val (.int v3), .val (.int v7), .val (.int v11), .val (.int v15), .val (.long v19), .second, .val (.long v23), .second, .val (.ref b25), .val (.ref b31), .val (.int v47), .val (.int v52), .val (.int v57), .val (.int (own_same q0_0 q0_1 v19 v23)), .val (.int (own_same v19 v23 q0_0 q0_1)), .val (.int (own_same q0_0 q0_1 q0_0 q0_1))] [(.int (1 : Int32))])) t → Steps p.tables e below (s₁.setTop (entryFrame m #[(.long q0_0), (.long q0_1), (.long q0_2), (.long q0_3), (.int p0_4)] maxLocals)) t := by
    intro t k
    refine k58 t ?_
    show Steps p.tables e below (T39.setTop (mkF m 164 #[.val (.long q0_0), .second, .val (.long q0_1), .second, .val (.long q0_2), .second, .val (.long q0_3), .second, .val (.int p0_4), .val (.int v3), .val (.int v7), .val (.int v11), .val (.int v15), .val (.long v19), .second, .val (.long v23), .second, .val (.ref b25), .val (.ref b31), .val (.int v47), .val (.int v52), .unset, .unset, .unset, .unset] [(.int v57)])) _
    refine XS.istore X39.here hx rfl (hb hby at_164) rfl (l' := #[.val (.long q0_0), .second, .val (.long q0_1), .second, .val (.long q0_2), .second, .val (.long q0_3), .second, .val (.int p0_4), .val (.int v3), .val (.int v7), .val (.int v11), .val (.int v15), .val (.long v19), .second, .val (.long v23), .second, .val (.ref b25), .val (.ref b31), .val (.int v47), .val (.int v52), .val (.int v57), .unset, .unset, .unset]) rfl ?_
    show Steps p.tables e below (T39.setTop (mkF m 166 #[.val (.long q0_0), .second, .val (.long q0_1), .second, .val (.long q0_2), .second, .val (.long q0_3), .second, .val (.int p0_4), .val (.int v3), .val (.int v7), .val (.int v11), .val (.int v15), .val (.long v19), .second, .val (.long v23), .second, .val (.ref b25), .val (.ref b31), .val (.int v47), .val (.int v52), .val (.int v57), .unset, .unset, .unset] [])) _
    refine XS.aload X39.here hx rfl (hb hby at_166) rfl rfl ?_
    show Steps p.tables e below (T39.setTop (mkF m 168 #[.val (.long q0_0), .second, .val (.long q0_1), .second, .val (.long q0_2), .second, .val (.long q0_3), .second, .val (.int p0_4), .val (.int v3), .val (.int v7), .val (.int v11), .val (.int v15), .val (.long v19), .second, .val (.long v23), .second, .val (.ref b25), .val (.ref b31), .val (.int v47), .val (.int v52), .val (.int v57), .unset, .unset, .unset] [(.ref b25)])) _
    refine XS.aload X39.here hx rfl (hb hby at_168) rfl rfl ?_
    show Steps p.tables e below (T39.setTop (mkF m 170 #[.val (.long q0_0), .second, .val (.long q0_1), .second, .val (.long q0_2), .second, .val (.long q0_3), .second, .val (.int p0_4), .val (.int v3), .val (.int v7), .val (.int v11), .val (.int v15), .val (.long v19), .second, .val (.long v23), .second, .val (.ref b25), .val (.ref b31), .val (.int v47), .val (.int v52), .val (.int v57), .unset, .unset, .unset] [(.ref b31), (.ref b25)])) _
    refine st59.trans ?_
    show Steps p.tables e below (T59.setTop (mkF m 173 #[.val (.long q0_0), .second, .val (.long q0_1), .second, .val (.long q0_2), .second, .val (.long q0_3), .second, .val (.int p0_4), .val (.int v3), .val (.int v7), .val (.int v11), .val (.int v15), .val (.long v19), .second, .val (.long v23), .second, .val (.ref b25), .val (.ref b31), .val (.int v47), .val (.int v52), .val (.int v57), .unset, .unset, .unset] [(.int (own_same q0_0 q0_1 v19 v23))])) _
    refine XS.istore X59.here hx rfl (hb hby at_173) rfl (l' := #[.val (.long q0_0), .second, .val (.long q0_1), .second, .val (.long q0_2), .second, .val (.long q0_3), .second, .val (.int p0_4), .val (.int v3), .val (.int v7), .val (.int v11), .val (.int v15), .val (.long v19), .second, .val (.long v23), .second, .val (.ref b25), .val (.ref b31), .val (.int v47), .val (.int v52), .val (.int v57), .val (.int (own_same q0_0 q0_1 v19 v23)), .unset, .unset]) rfl ?_
    show Steps p.tables e below (T59.setTop (mkF m 175 #[.val (.long q0_0), .second, .val (.long q0_1), .second, .val (.long q0_2), .second, .val (.long q0_3), .second, .val (.int p0_4), .val (.int v3), .val (.int v7), .val (.int v11), .val (.int v15), .val (.long v19), .second, .val (.long v23), .second, .val (.ref b25), .val (.ref b31), .val (.int v47), .val (.int v52), .val (.int v57), .val (.int (own_same q0_0 q0_1 v19 v23)), .unset, .unset] [])) _
    refine XS.aload X59.here hx rfl (hb hby at_175) rfl rfl ?_
    show Steps p.tables e below (T59.setTop (mkF m 177 #[.val (.long q0_0), .second, .val (.long q0_1), .second, .val (.long q0_2), .second, .val (.long q0_3), .second, .val (.int p0_4), .val (.int v3), .val (.int v7), .val (.int v11), .val (.int v15), .val (.long v19), .second, .val (.long v23), .second, .val (.ref b25), .val (.ref b31), .val (.int v47), .val (.int v52), .val (.int v57), .val (.int (own_same q0_0 q0_1 v19 v23)), .unset, .unset] [(.ref b31)])) _
    refine XS.aload X59.here hx rfl (hb hby at_177) rfl rfl ?_
    show Steps p.tables e below (T59.setTop (mkF m 179 #[.val (.long q0_0), .second, .val (.long q0_1), .second, .val (.long q0_2), .second, .val (.long q0_3), .second, .val (.int p0_4), .val (.int v3), .val (.int v7), .val (.int v11), .val (.int v15), .val (.long v19), .second, .val (.long v23), .second, .val (.ref b25), .val (.ref b31), .val (.int v47), .val (.int v52), .val (.int v57), .val (.int (own_same q0_0 q0_1 v19 v23)), .unset, .unset] [(.ref b25), (.ref b31)])) _
    refine st60.trans ?_
    show Steps p.tables e below (T60.setTop (mkF m 182 #[.val (.long q0_0), .second, .val (.long q0_1), .second, .val (.long q0_2), .second, .val (.long q0_3), .second, .val (.int p0_4), .val (.int v3), .val (.int v7), .val (.int v11), .val (.int v15), .val (.long v19), .second, .val (.long v23), .second, .val (.ref b25), .val (.ref b31), .val (.int v47), .val (.int v52), .val (.int v57), .val (.int (own_same q0_0 q0_1 v19 v23)), .unset, .unset] [(.int (own_same v19 v23 q0_0 q0_1))])) _
    refine XS.istore X60.here hx rfl (hb hby at_182) rfl (l' := #[.val (.long q0_0), .second, .val (.long q0_1), .second, .val (.long q0_2), .second, .val (.long q0_3), .second, .val (.int p0_4), .val (.int v3), .val (.int v7), .val (.int v11), .val (.int v15), .val (.long v19), .second, .val (.long v23), .second, .val (.ref b25), .val (.ref b31), .val (.int v47), .val (.int v52), .val (.int v57), .val (.int (own_same q0_0 q0_1 v19 v23)), .val (.int (own_same v19 v23 q0_0 q0_1)), .unset]) rfl ?_
    show Steps p.tables e below (T60.setTop (mkF m 184 #[.val (.long q0_0), .second, .val (.long q0_1), .second, .val (.long q0_2), .second, .val (.long q0_3), .second, .val (.int p0_4), .val (.int v3), .val (.int v7), .val (.int v11), .val (.int v15), .val (.long v19), .second, .val (.long v23), .second, .val (.ref b25), .val (.ref b31), .val (.int v47), .val (.int v52), .val (.int v57), .val (.int (own_same q0_0 q0_1 v19 v23)), .val (.int (own_same v19 v23 q0_0 q0_1)), .unset] [])) _
    refine XS.aload X60.here hx rfl (hb hby at_184) rfl rfl ?_
    show Steps p.tables e below (T60.setTop (mkF m 186 #[.val (.long q0_0), .second, .val (.long q0_1), .second, .val (.long q0_2), .second, .val (.long q0_3), .second, .val (.int p0_4), .val (.int v3), .val (.int v7), .val (.int v11), .val (.int v15), .val (.long v19), .second, .val (.long v23), .second, .val (.ref b25), .val (.ref b31), .val (.int v47), .val (.int v52), .val (.int v57), .val (.int (own_same q0_0 q0_1 v19 v23)), .val (.int (own_same v19 v23 q0_0 q0_1)), .unset] [(.ref b25)])) _
    refine XS.aload X60.here hx rfl (hb hby at_186) rfl rfl ?_
    show Steps p.tables e below (T60.setTop (mkF m 188 #[.val (.long q0_0), .second, .val (.long q0_1), .second, .val (.long q0_2), .second, .val (.long q0_3), .second, .val (.int p0_4), .val (.int v3), .val (.int v7), .val (.int v11), .val (.int v15), .val (.long v19), .second, .val (.long v23), .second, .val (.ref b25), .val (.ref b31), .val (.int v47), .val (.int v52), .val (.int v57), .val (.int (own_same q0_0 q0_1 v19 v23)), .val (.int (own_same v19 v23 q0_0 q0_1)), .unset] [(.ref b25), (.ref b25)])) _
    refine st61.trans ?_
    show Steps p.tables e below (T61.setTop (mkF m 191 #[.val (.long q0_0), .second, .val (.long q0_1), .second, .val (.long q0_2), .second, .val (.long q0_3), .second, .val (.int p0_4), .val (.int v3), .val (.int v7), .val (.int v11), .val (.int v15), .val (.long v19), .second, .val (.long v23), .second, .val (.ref b25), .val (.ref b31), .val (.int v47), .val (.int v52), .val (.int v57), .val (.int (own_same q0_0 q0_1 v19 v23)), .val (.int (own_same v19 v23 q0_0 q0_1)), .unset] [(.int (own_same q0_0 q0_1 q0_0 q0_1))])) _
    refine XS.istore X61.here hx rfl (hb hby at_191) rfl (l' := #[.val (.long q0_0), .second, .val (.long q0_1), .second, .val (.long q0_2), .second, .val (.long q0_3), .second, .val (.int p0_4), .val (.int v3), .val (.int v7), .val (.int v11), .val (.int v15), .val (.long v19), .second, .val (.long v23), .second, .val (.ref b25), .val (.ref b31), .val (.int v47), .val (.int v52), .val (.int v57), .val (.int (own_same q0_0 q0_1 v19 v23)), .val (.int (own_same v19 v23 q0_0 q0_1)), .val (.int (own_same q0_0 q0_1 q0_0 q0_1))]) rfl ?_
    show Steps p.tables e below (T61.setTop (mkF m 193 #[.val (.long q0_0), .second, .val (.long q0_1), .second, .val (.long q0_2), .second, .val (.long q0_3), .second, .val (.int p0_4), .val (.int v3), .val (.int v7), .val (.int v11), .val (.int v15), .val (.long v19), .second, .val (.long v23), .second, .val (.ref b25), .val (.ref b31), .val (.int v47), .val (.int v52), .val (.int v57), .val (.int (own_same q0_0 q0_1 v19 v23)), .val (.int (own_same v19 v23 q0_0 q0_1)), .val (.int (own_same q0_0 q0_1 q0_0 q0_1))] [])) _
    refine XS.iload X61.here hx rfl (hb hby at_193) rfl ?_
    show Steps p.tables e below (T61.setTop (mkF m 195 #[.val (.long q0_0), .second, .val (.long q0_1), .second, .val (.long q0_2), .second, .val (.long q0_3), .second, .val (.int p0_4), .val (.int v3), .val (.int v7), .val (.int v11), .val (.int v15), .val (.long v19), .second, .val (.long v23), .second, .val (.ref b25), .val (.ref b31), .val (.int v47), .val (.int v52), .val (.int v57), .val (.int (own_same q0_0 q0_1 v19 v23)), .val (.int (own_same v19 v23 q0_0 q0_1)), .val (.int (own_same q0_0 q0_1 q0_0 q0_1))] [(.int (own_same q0_0 q0_1 v19 v23))])) _
    refine XS.iload X61.here hx rfl (hb hby at_195) rfl ?_
    show Steps p.tables e below (T61.setTop (mkF m 197 #[.val (.long q0_0), .second, .val (.long q0_1), .second, .val (.long q0_2), .second, .val (.long q0_3), .second, .val (.int p0_4), .val (.int v3), .val (.int v7), .val (.int v11), .val (.int v15), .val (.long v19), .second, .val (.long v23), .second, .val (.ref b25), .val (.ref b31), .val (.int v47), .val (.int v52), .val (.int v57), .val (.int (own_same q0_0 q0_1 v19 v23)), .val (.int (own_same v19 v23 q0_0 q0_1)), .val (.int (own_same q0_0 q0_1 q0_0 q0_1))] [(.int v57), (.int (own_same q0_0 q0_1 v19 v23))])) _
    refine XS.icmpNo X61.here hx rfl (hb hby at_197) rfl (teq (by rw [hv57, hv47, hv52, hv19, hv23]; exact own_law _ _ _ _ _ _)).2 ?_
    show Steps p.tables e below (T61.setTop (mkF m 200 #[.val (.long q0_0), .second, .val (.long q0_1), .second, .val (.long q0_2), .second, .val (.long q0_3), .second, .val (.int p0_4), .val (.int v3), .val (.int v7), .val (.int v11), .val (.int v15), .val (.long v19), .second, .val (.long v23), .second, .val (.ref b25), .val (.ref b31), .val (.int v47), .val (.int v52), .val (.int v57), .val (.int (own_same q0_0 q0_1 v19 v23)), .val (.int (own_same v19 v23 q0_0 q0_1)), .val (.int (own_same q0_0 q0_1 q0_0 q0_1))] [])) _
    refine XS.iload X61.here hx rfl (hb hby at_200) rfl ?_
    show Steps p.tables e below (T61.setTop (mkF m 202 #[.val (.long q0_0), .second, .val (.long q0_1), .second, .val (.long q0_2), .second, .val (.long q0_3), .second, .val (.int p0_4), .val (.int v3), .val (.int v7), .val (.int v11), .val (.int v15), .val (.long v19), .second, .val (.long v23), .second, .val (.ref b25), .val (.ref b31), .val (.int v47), .val (.int v52), .val (.int v57), .val (.int (own_same q0_0 q0_1 v19 v23)), .val (.int (own_same v19 v23 q0_0 q0_1)), .val (.int (own_same q0_0 q0_1 q0_0 q0_1))] [(.int (own_same v19 v23 q0_0 q0_1))])) _
    refine XS.iload X61.here hx rfl (hb hby at_202) rfl ?_
    show Steps p.tables e below (T61.setTop (mkF m 204 #[.val (.long q0_0), .second, .val (.long q0_1), .second, .val (.long q0_2), .second, .val (.long q0_3), .second, .val (.int p0_4), .val (.int v3), .val (.int v7), .val (.int v11), .val (.int v15), .val (.long v19), .second, .val (.long v23), .second, .val (.ref b25), .val (.ref b31), .val (.int v47), .val (.int v52), .val (.int v57), .val (.int (own_same q0_0 q0_1 v19 v23)), .val (.int (own_same v19 v23 q0_0 q0_1)), .val (.int (own_same q0_0 q0_1 q0_0 q0_1))] [(.int v57), (.int (own_same v19 v23 q0_0 q0_1))])) _
    refine XS.icmpNo X61.here hx rfl (hb hby at_204) rfl (teq (by rw [hv57, hv47, hv52, hv19, hv23]; exact own_law2 _ _ _ _ _ _)).2 ?_
    show Steps p.tables e below (T61.setTop (mkF m 207 #[.val (.long q0_0), .second, .val (.long q0_1), .second, .val (.long q0_2), .second, .val (.long q0_3), .second, .val (.int p0_4), .val (.int v3), .val (.int v7), .val (.int v11), .val (.int v15), .val (.long v19), .second, .val (.long v23), .second, .val (.ref b25), .val (.ref b31), .val (.int v47), .val (.int v52), .val (.int v57), .val (.int (own_same q0_0 q0_1 v19 v23)), .val (.int (own_same v19 v23 q0_0 q0_1)), .val (.int (own_same q0_0 q0_1 q0_0 q0_1))] [])) _
    refine XS.iload X61.here hx rfl (hb hby at_207) rfl ?_
    show Steps p.tables e below (T61.setTop (mkF m 209 #[.val (.long q0_0), .second, .val (.long q0_1), .second, .val (.long q0_2), .second, .val (.long q0_3), .second, .val (.int p0_4), .val (.int v3), .val (.int v7), .val (.int v11), .val (.int v15), .val (.long v19), .second, .val (.long v23), .second, .val (.ref b25), .val (.ref b31), .val (.int v47), .val (.int v52), .val (.int v57), .val (.int (own_same q0_0 q0_1 v19 v23)), .val (.int (own_same v19 v23 q0_0 q0_1)), .val (.int (own_same q0_0 q0_1 q0_0 q0_1))] [(.int (own_same q0_0 q0_1 q0_0 q0_1))])) _
    refine XS.ifNo X61.here hx rfl (hb hby at_209) rfl ((if0 _ _).trans (feq (by rw [own_same_self]; decide)).1) ?_
    show Steps p.tables e below (T61.setTop (mkF m 212 #[.val (.long q0_0), .second, .val (.long q0_1), .second, .val (.long q0_2), .second, .val (.long q0_3), .second, .val (.int p0_4), .val (.int v3), .val (.int v7), .val (.int v11), .val (.int v15), .val (.long v19), .second, .val (.long v23), .second, .val (.ref b25), .val (.ref b31), .val (.int v47), .val (.int v52), .val (.int v57), .val (.int (own_same q0_0 q0_1 v19 v23)), .val (.int (own_same v19 v23 q0_0 q0_1)), .val (.int (own_same q0_0 q0_1 q0_0 q0_1))] [])) _
    refine XS.iconst X61.here hx rfl (hb hby at_212) ?_
    show Steps p.tables e below (T61.setTop (mkF m 213 #[.val (.long q0_0), .second, .val (.long q0_1), .second, .val (.long q0_2), .second, .val (.long q0_3), .second, .val (.int p0_4), .val (.int v3), .val (.int v7), .val (.int v11), .val (.int v15), .val (.long v19), .second, .val (.long v23), .second, .val (.ref b25), .val (.ref b31), .val (.int v47), .val (.int v52), .val (.int v57), .val (.int (own_same q0_0 q0_1 v19 v23)), .val (.int (own_same v19 v23 q0_0 q0_1)), .val (.int (own_same q0_0 q0_1 q0_0 q0_1))] [(.int (1 : Int32))])) _
    refine XS.goto X61.here hx rfl (pc0 := 213) (pc' := 217) rfl (hb hby at_213) (by decide) (by decide) ?_
    exact k
  obtain ⟨fs, hr, hrun, hended, hW, hsame⟩ := X61.leave (v := some (.int (1 : Int32))) (fun h => by rw [Bd.returns] at h; cases h)
  refine ⟨_, _, k62 _ ?_, hrun, hended, _, _, rfl, ?_, ⟨_, rfl⟩, hW, hsame.mono (by decide) (by decide)⟩
  · exact retN X61 hx (t := .boolean) Bd.returns (by simp) (hb hby at_217) hr
  · show Q0 Z q0_0 q0_1 q0_2 q0_3 p0_4 h0 n0 _ T61.heap _
    rw [eh61]
    exact ⟨rfl, N61⟩
set_option maxRecDepth 65536 in
set_option maxHeartbeats 40000000 in
theorem comes_1 {Post : Tables → Env → Array Value → State → Outcome → State → Prop} (hpost : ∀ tb e args s v u, (limb_1_1.after args s (.returned v) u = true ∧ limb_1_2.after args s (.returned v) u = true ∧ True) → FrameEnd s (.returned v) u (Jvm.fieldLocs frame_1_writes args s ++ Jvm.arrayLocs frame_1_arrays args s ++ Jvm.staticLocs frame_1_statics s) 16 128 → Post tb e args s (.returned v) u) :
    ArmFor flags0 classFile x code maxLocals ret World_1 tables_1 room_1 Calls_1 rest_1 Pre_1 Post := by
  intro l hfl _ _ p e ha hc hk s m args below hf hA hF happ hP
  obtain ⟨hcalls, hrest, hpre⟩ := hP
  obtain ⟨-, -, -, hnamed, -, -, -, hat⟩ := (Spec.applies_iff hf).mp happ
  obtain ⟨hg, hn⟩ := and_e (Cond.before_iff.mp (show (Jvm.Cond.and given_1 narrow_1).before args s = true from hpre))
  obtain ⟨gv1, gv2⟩ := and_e hg
  obtain ⟨gv3, gv4⟩ := and_e gv2
  obtain ⟨gv5, gv6⟩ := and_e gv4
  obtain ⟨gv7, gv8⟩ := and_e gv6
  obtain ⟨gv9, gv10⟩ := and_e gv8
  obtain ⟨w0, w1, w2, w3, w4, rfl⟩ : ∃ w0 w1 w2 w3 w4 : Value, args = #[w0, w1, w2, w3, w4] := by
    have hs : args.size = 5 := by simpa [Cond.value, given_1] using gv1
    obtain ⟨L⟩ := args
    match L, hs with
    | [w0, w1, w2, w3, w4], _ => exact ⟨w0, w1, w2, w3, w4, rfl⟩
  have hw := fun d (hd : d ∈ tables_1) => atoms_spec (ws := Jvm.Cond.code x code maxLocals ret :: tables_1) hat d (List.mem_cons_of_mem _ hd)
  have hfit : Fit s := fun {y c} hc i hi => by
    obtain ⟨ha, rfl⟩ := Array.getElem?_eq_some_iff.mp hc
    have q := List.all_eq_true.mp ((Array.all_eq_true_iff_forall_mem.mp hF) _ (Array.getElem_mem ha)) i (List.mem_range.mpr hi)
    simpa [Array.getElem?_eq_getElem hi] using q
  obtain ⟨i0, ei0⟩ := isL_v gv3
  obtain rfl : w0 = (.long i0) := Option.some.inj ei0
  obtain ⟨i1, ei1⟩ := isL_v gv5
  obtain rfl : w1 = (.long i1) := Option.some.inj ei1
  obtain ⟨i2, ei2⟩ := isL_v gv7
  obtain rfl : w2 = (.long i2) := Option.some.inj ei2
  obtain ⟨i3, ei3⟩ := isL_v gv9
  obtain rfl : w3 = (.long i3) := Option.some.inj ei3
  obtain ⟨i4, ei4⟩ := is_v gv10
  obtain rfl : w4 = (.int i4) := Option.some.inj ei4
  obtain ⟨n, o, h1, h2, h3, _, L, rfl, ⟨rfl, N⟩, hq⟩ := rm0 l s _ hw tables_1 i0 i1 i2 i3 i4 s.heap s.heap.size (Nat.le_refl _)  p e ha hc hk s m _ below hf ((Spec.applies_iff_loose hf).mp happ).1 ⟨rfl, State.Warmed39.refl s, rfl⟩ trivial
  refine ⟨n, _, h1, h2, h3, hpost _ _ _ _ _ _ ⟨Cond.after_iff.mpr rfl, Cond.after_iff.mpr (eq_i res_at (Term.int_eval (1)) rfl), trivial⟩ ⟨hq.1, hq.2.1, (hq.2.2.sift fun y hy => Or.inr (N y hy)).mono (by decide) (by decide)⟩⟩
theorem main_1_1 : Claimed_1_1 := comes_1 fun _ _ _ _ _ _ h hF => ⟨h.1, hF⟩
theorem main_1_2 : Claimed_1_2 := comes_1 fun _ _ _ _ _ _ h hF => ⟨h.2.1, hF⟩
end Jvm.Pilot.@@N@@
namespace Jvm.Pilot.@@N@@
open Jvm Jvm.ClassFile Sem Op Lib Jvm.Free Jvm.Stand Jvm.Pilot.@@N@@.Jvm.D
/-! MADE BY PROGRAM (witnessworld.py) out of the Statement's table words and the real class files: 9 classes; the members and pool entries that the words name. The judged class is class 1, her method 1. -/
namespace start1
open Jvm.ClassFile
def u (s : String) : CpInfo := .utf8 (stringToUtf16 s)
/-- a pool by its gaps: so many unusable entries, then the entry; so many at the end -/
def gap : Nat → List CpInfo → List CpInfo
  | 0, r => r
  | n + 1, r => .unusable :: gap n r
def poolList (es : List (Nat × CpInfo)) (last : Nat) : List CpInfo := es.foldr (fun e r => gap e.1 (e.2 :: r)) (gap last [])
def pool (es : List (Nat × CpInfo)) (last : Nat) : Array CpInfo := ⟨poolList es last⟩
def fileOf (pool : Array CpInfo) (this : Nat) (attrs : Array Attribute := #[]) (ms : Array MethodInfo := #[]) (fl : Nat := 33) (sup : Nat := 0) (ifs : Array Nat := #[]) (fds : Array FieldInfo := #[]) : ClassFile where
  minorVersion := 0
  majorVersion := 65
  constantPool := pool
  accessFlags := fl
  thisClass := this
  superClass := sup
  interfaces := ifs
  fields := fds
  methods := ms
  attributes := attrs
def plain (name : String) (sup : Option ClassId) : Class where
  name := name
  kind := .ordinary
  loader := none
  accessFlags := 33
  super := sup
  interfaces := #[]
  cf := none
  fields := #[]
  methods := #[]
  instanceTypes := #[]
  staticTypes := #[]
  resolved := #[]
  callSites := []
  init := .initialized
  statics := none
  mirror := none

def pool0 : Array CpInfo := pool [(5, u "<init>"), (0, u "()V"), (1, .class_ 10), (1, u "java/lang/Object")] 113

def k0c0 : Code := { maxStack := 0, maxLocals := 1, code := object_method_1_code, exceptionTable := #[], attributes := #[] }
def k0m0 : Method := { name := "<init>", desc := "()V", sig := { parameters := [], returnType := none }, accessFlags := 1, code := some k0c0 }
/-- java/lang/Object -/
def k0 : Class := { plain "java/lang/Object" none with
  accessFlags := 33
  interfaces := #[]
  cf := some (fileOf pool0 8 #[] #[{ accessFlags := 1, nameIndex := 5, descriptorIndex := 6, attributes := #[] }] 33 0 #[] #[])
  fields := #[]
  methods := #[k0m0]
  instanceTypes := #[]
  staticTypes := #[]
  resolved := Array.replicate 124 none
  statics := none }

def pool1 : Array CpInfo := pool [(2, .class_ 4), (1, u "java/lang/Object"), (0, u "<init>"), (0, u "()V"), (0, .class_ 8), (0, u "com/example/batchrake/batchrake/Inode"), (0, .methodref 7 10), (0, .nameAndType 5 11), (0, u "(JJZ)V"), (0, .methodref 7 13), (0, .nameAndType 14 15), (0, u "isSame"), (0, u "(Lcom/example/batchrake/batchrake/Inode;)Z"), (0, .class_ 17), (0, u "com/example/batchrake/batchrake/InodeIsSamePinLaw"), (2, u "law"), (0, u "(JJJJI)Z")] 3

def k1m0 : Method := { name := "<init>", desc := "()V", sig := { parameters := [], returnType := none }, accessFlags := 1, code := none }
def k1c1 : Code := { maxStack := 7, maxLocals := 25, code := code, exceptionTable := #[], attributes := #[] }
def k1m1 : Method := { name := "law", desc := "(JJJJI)Z", sig := { parameters := [.long, .long, .long, .long, .int], returnType := some .boolean }, accessFlags := 9, code := some k1c1 }
/-- com/example/batchrake/batchrake/InodeIsSamePinLaw -/
def k1 : Class := { plain "com/example/batchrake/batchrake/InodeIsSamePinLaw" (some 0) with
  accessFlags := 49
  interfaces := #[]
  cf := some (fileOf pool1 16 #[] #[{ accessFlags := 1, nameIndex := 5, descriptorIndex := 6, attributes := #[] }, { accessFlags := 9, nameIndex := 20, descriptorIndex := 21, attributes := #[] }] 49 2 #[] #[])
  fields := #[]
  methods := #[k1m0, k1m1]
  instanceTypes := #[]
  staticTypes := #[]
  resolved := Array.replicate 25 none
  statics := none }

def pool2 : Array CpInfo := pool [(1, .methodref 2 3), (0, .class_ 4), (0, .nameAndType 5 6), (0, u "java/lang/Object"), (0, u "<init>"), (0, u "()V"), (0, .fieldref 8 9), (0, .class_ 10), (0, .nameAndType 11 12), (0, u "com/example/batchrake/batchrake/Inode"), (0, u "device"), (0, u "J"), (0, .fieldref 8 14), (0, .nameAndType 15 12), (0, u "number"), (0, .fieldref 8 17), (0, .nameAndType 18 19), (0, u "directory"), (0, u "Z"), (0, u "(JJZ)V"), (4, u "isSame"), (0, u "(Lcom/example/batchrake/batchrake/Inode;)Z")] 3

def k2c0 : Code := { maxStack := 3, maxLocals := 6, code := prog_4_method_1_code, exceptionTable := #[], attributes := #[] }
def k2m0 : Method := { name := "<init>", desc := "(JJZ)V", sig := { parameters := [.long, .long, .boolean], returnType := none }, accessFlags := 0, code := some k2c0 }
def k2c1 : Code := { maxStack := 4, maxLocals := 2, code := prog_4_method_3_code, exceptionTable := #[], attributes := #[] }
def k2m1 : Method := { name := "isSame", desc := "(Lcom/example/batchrake/batchrake/Inode;)Z", sig := { parameters := [(.object "com/example/batchrake/batchrake/Inode")], returnType := some .boolean }, accessFlags := 0, code := some k2c1 }
/-- com/example/batchrake/batchrake/Inode -/
def k2 : Class := { plain "com/example/batchrake/batchrake/Inode" (some 0) with
  accessFlags := 48
  interfaces := #[]
  cf := some (fileOf pool2 8 #[] #[{ accessFlags := 0, nameIndex := 5, descriptorIndex := 20, attributes := #[] }, { accessFlags := 0, nameIndex := 25, descriptorIndex := 26, attributes := #[] }] 48 2 #[] #[{ accessFlags := 18, nameIndex := 11, descriptorIndex := 12, attributes := #[] }, { accessFlags := 18, nameIndex := 15, descriptorIndex := 12, attributes := #[] }, { accessFlags := 18, nameIndex := 18, descriptorIndex := 19, attributes := #[] }])
  fields := #[{ name := "device", type := .long, accessFlags := 18, slot := 0, constantValue := 0 }, { name := "number", type := .long, accessFlags := 18, slot := 1, constantValue := 0 }, { name := "directory", type := .boolean, accessFlags := 18, slot := 2, constantValue := 0 }]
  methods := #[k2m0, k2m1]
  instanceTypes := #[.long, .long, .boolean]
  staticTypes := #[]
  resolved := Array.replicate 30 none
  statics := none }

def pool3 : Array CpInfo := pool [(1, u "java/lang/Cloneable"), (0, .class_ 1), (0, u "java/lang/Object"), (0, .class_ 3)] 3

/-- java/lang/Cloneable -/
def k3 : Class := { plain "java/lang/Cloneable" (some 0) with
  accessFlags := 1537
  interfaces := #[]
  cf := some (fileOf pool3 2 #[] #[] 1537 4 #[] #[])
  fields := #[]
  methods := #[]
  instanceTypes := #[]
  staticTypes := #[]
  resolved := Array.replicate 8 none
  statics := none }

def pool4 : Array CpInfo := pool [(1, u "java/io/Serializable"), (0, .class_ 1), (0, u "java/lang/Object"), (0, .class_ 3)] 3

/-- java/io/Serializable -/
def k4 : Class := { plain "java/io/Serializable" (some 0) with
  accessFlags := 1537
  interfaces := #[]
  cf := some (fileOf pool4 2 #[] #[] 1537 4 #[] #[])
  fields := #[]
  methods := #[]
  instanceTypes := #[]
  staticTypes := #[]
  resolved := Array.replicate 8 none
  statics := none }

/-- the primitive byte -/
def k5 : Class := { plain "byte" none with kind := .primitive 'B', accessFlags := 0x411 }
/-- [B -/
def k6 : Class := { plain "[B" (some 0) with kind := .array 5 .byte, interfaces := #[3, 4], accessFlags := 1041 }

/-- the primitive int -/
def k7 : Class := { plain "int" none with kind := .primitive 'I', accessFlags := 0x411 }
/-- [I -/
def k8 : Class := { plain "[I" (some 0) with kind := .array 7 .int, interfaces := #[3, 4], accessFlags := 1041 }

def heap : Heap := #[]
def classes : Array Class := #[k0, k1, k2, k3, k4, k5, k6, k7, k8]
def interned : List (Array UInt16 × Addr) := []
def slotsUsed : Nat := 0
def theMethod : MethodId := ⟨1, 1⟩
def args0 : Array Value := #[.long 1, .long 2, .long 3, .long 4, .int 5]
def aboutOver (below : List Frame) : State where
  vm := { classes := classes, interned := interned.toArray }
  heap := heap
  slotsUsed := slotsUsed
  threads := #[{ frames := .invoking theMethod args0 :: below }]
def below0 : List Frame := [.native { method := ⟨0, 0⟩, args := #[] }]
def about1 : State := aboutOver below0
def p0 : Program := .bare "" "" ""
def e0 : Env := launch0.env 0 0 0
theorem w_frames : about1.frames = Frame.invoking theMethod args0 :: below0 := rfl
set_option maxRecDepth 65536 in
theorem w_args : argsFit about1.vm theMethod args0 = true := by decide +kernel
set_option maxRecDepth 65536 in
theorem w_heap : heapFits about1 = true := by decide +kernel
set_option maxRecDepth 65536 in
theorem w_runnable : about1.curStatus? = some .runnable := by decide +kernel
set_option maxRecDepth 65536 in
theorem w_alone : about1.alone = true := by decide +kernel
set_option maxRecDepth 65536 in
theorem w_named : about1.methodNamed? x = some theMethod := by decide +kernel
set_option maxRecDepth 65536 in
theorem w_hears : about1.hears theMethod below0 = true := by decide +kernel
set_option maxRecDepth 65536 in
theorem w_ripe : about1.ripe theMethod args0 below0 = true := by decide +kernel
theorem w_running : about1.status = .running := rfl
set_option maxRecDepth 65536 in
theorem w_room : about1.hasRoom e0.platform room_1 = true :=
  launch0.hasRoom_least _ room_1 (by decide +kernel) (by decide +kernel) (by decide +kernel) (by decide +kernel) (by decide +kernel) (by decide +kernel)
theorem allAtoms_all (ts : List Jvm.Cond) (a : Array Jvm.Value) (st : Jvm.State) : (allAtoms ts).before a st = ts.all (fun c => c.before a st) := by
  induction ts with
  | nil => rfl
  | cons c t ih =>
    show (Jvm.Cond.and c (allAtoms t)).before a st = _
    rw [Jvm.Cond.before_and, ih, List.all_cons]
def words1 : List Jvm.Cond := Jvm.Cond.code x code maxLocals ret :: tables_1
/-- a 'code' word, met by the world's own term for the bytes: nothing is compared byte by byte -/
theorem code_word {y : MethodName} {bytes : ByteArray} {mx : Nat} {rt : Option FieldType} {a : Array Value} {s : State} {m : MethodId} {meth : Method} {c : Code} (h1 : s.methodNamed? y = some m) (h2 : s.vm.method? m = some meth) (h3 : meth.code = some c) (h4 : c.code = bytes)
    (h5 : (c.maxLocals == mx && c.exceptionTable.isEmpty && decide (c.maxStack ≤ mostOperands) && decide (meth.sig.returnType = rt) && !meth.locks && decide (parseMethodDescriptor y.desc = some meth.sig)) = true) : (Jvm.Cond.code y bytes mx rt).before a s = true := by
  simp only [Bool.and_eq_true, beq_iff_eq, Bool.not_eq_true', decide_eq_true_eq] at h5
  obtain ⟨⟨⟨⟨⟨g1, g2⟩, g3⟩, g4⟩, g5⟩, g6⟩ := h5
  simp [Cond.before, Cond.holds, Cond.value, h1, h2, h3, h4, g1, g2, g3, g4, g5, g6]
def isCode : Jvm.Cond → Bool
  | .code _ _ _ _ => true
  | _ => false
theorem all_split {L : List Jvm.Cond} {P : Jvm.Cond → Bool} (h1 : L.all (fun c => isCode c || P c) = true) (h2 : ∀ c ∈ L.filter isCode, P c = true) : L.all P = true := by
  refine List.all_eq_true.mpr fun c hc => ?_
  have h := List.all_eq_true.mp h1 c hc
  rcases Bool.eq_false_or_eq_true (isCode c) with hi | hi
  · exact h2 c (List.mem_filter.mpr ⟨hc, hi⟩)
  · simpa [hi] using h
set_option maxRecDepth 65536 in
theorem w_c0 : (Jvm.Cond.code x code maxLocals ret).before args0 about1 = true := code_word (m := ⟨1, 1⟩) (meth := k1m1) (c := k1c1) (by decide +kernel) rfl rfl rfl (by decide +kernel)
set_option maxRecDepth 65536 in
theorem w_c1 : (Jvm.Cond.code ({ cls := "com/example/batchrake/batchrake/Inode", name := "<init>", desc := "(JJZ)V" } : Jvm.MethodName) prog_4_method_1_code (6 : Nat) (Option.none : Option Jvm.ClassFile.FieldType)).before args0 about1 = true := code_word (m := ⟨2, 0⟩) (meth := k2m0) (c := k2c0) (by decide +kernel) rfl rfl rfl (by decide +kernel)
set_option maxRecDepth 65536 in
theorem w_c2 : (Jvm.Cond.code ({ cls := "java/lang/Object", name := "<init>", desc := "()V" } : Jvm.MethodName) object_method_1_code (1 : Nat) (Option.none : Option Jvm.ClassFile.FieldType)).before args0 about1 = true := code_word (m := ⟨0, 0⟩) (meth := k0m0) (c := k0c0) (by decide +kernel) rfl rfl rfl (by decide +kernel)
set_option maxRecDepth 65536 in
theorem w_c3 : (Jvm.Cond.code ({ cls := "com/example/batchrake/batchrake/Inode", name := "isSame", desc := "(Lcom/example/batchrake/batchrake/Inode;)Z" } : Jvm.MethodName) prog_4_method_3_code (2 : Nat) (Option.some Jvm.ClassFile.FieldType.boolean)).before args0 about1 = true := code_word (m := ⟨2, 1⟩) (meth := k2m1) (c := k2c1) (by decide +kernel) rfl rfl rfl (by decide +kernel)
def codes1 : List Jvm.Cond := [Jvm.Cond.code x code maxLocals ret, Jvm.Cond.code ({ cls := "com/example/batchrake/batchrake/Inode", name := "<init>", desc := "(JJZ)V" } : Jvm.MethodName) prog_4_method_1_code (6 : Nat) (Option.none : Option Jvm.ClassFile.FieldType), Jvm.Cond.code ({ cls := "java/lang/Object", name := "<init>", desc := "()V" } : Jvm.MethodName) object_method_1_code (1 : Nat) (Option.none : Option Jvm.ClassFile.FieldType), Jvm.Cond.code ({ cls := "com/example/batchrake/batchrake/Inode", name := "isSame", desc := "(Lcom/example/batchrake/batchrake/Inode;)Z" } : Jvm.MethodName) prog_4_method_3_code (2 : Nat) (Option.some Jvm.ClassFile.FieldType.boolean)]
set_option maxRecDepth 65536 in
theorem codes_eq : words1.filter isCode = codes1 := rfl
theorem w_codes : ∀ c ∈ words1.filter isCode, c.before args0 about1 = true := by
  rw [codes_eq]
  intro c hc
  simp only [codes1, List.mem_cons, List.not_mem_nil, or_false] at hc
  rcases hc with rfl | rfl | rfl | rfl
  · exact w_c0
  · exact w_c1
  · exact w_c2
  · exact w_c3
set_option maxRecDepth 65536 in
theorem w_t1 : words1.all (fun c => isCode c || c.before args0 about1) = true := by decide +kernel
theorem w_tables : (allAtoms (Jvm.Cond.code x code maxLocals ret :: tables_1)).before args0 about1 = true := by
  rw [allAtoms_all]
  show words1.all (fun c => c.before args0 about1) = true
  refine all_split ?_ w_codes
  rw [w_t1]
set_option maxRecDepth 65536 in
theorem w_case : (Jvm.Cond.and given_1 narrow_1).before args0 about1 = true := by decide +kernel
theorem w_applies : (headSpec (Jvm.Cond.code x code maxLocals ret :: tables_1) room_1).applies x e0.platform about1 = true :=
  (Spec.applies_iff w_frames).mpr ⟨w_running, w_runnable, w_alone, w_named, w_hears, w_ripe, w_room, w_tables⟩
theorem atStart : AtStart classFile x code maxLocals ret World_1 tables_1 room_1 Calls_1 rest_1 Pre_1 launch0 p0 e0 about1 theMethod args0 below0 :=
  ⟨lists_1, trivial, launch0.admits_env _ _ _, launch0.least_env, fairChoices_fair.cas, fairChoices_fair.clock, w_frames, w_args, w_heap, w_applies, trivial, trivial, w_case⟩
end start1
theorem witness_1 : WitnessClaimed_1 := ⟨start1.p0, start1.e0, start1.about1, start1.theMethod, start1.args0, start1.below0, start1.atStart⟩
end Jvm.Pilot.@@N@@
