import JvmDerived
import JvmDerived.Pilot.@@N@@Statement
import JvmDerived.Pilot.@@N@@Code
set_option linter.unusedVariables false
set_option linter.unusedSimpArgs false
namespace Jvm.RoadKit
open Sem ClassFile Op Lib Jvm.Stand Jvm.Free Jvm.LawKit
section New
variable {p : Program} {l : Launch} {e : Env} {R : Room} {s : State} {m : MethodId} {args : Array Value} {below : List Frame} {meth : Method} {c : Code} {T : State} {locs : List Loc} {cells slots : Nat}
theorem retI (X : Stand p l e R s m args below meth c T locs cells slots) (hx : p.tables.exec = Jvm.exec) {pc : Nat} {Ls : Array Slot} {z : Int32} {rest : List Value} (hret : meth.sig.returnType = some .int) (hd : decode c.code pc = .ok (.ireturn, 1)) {fs : List Frame}
    (hl : ∀ (f : JFrame) (acts : List Action), f.method = m → f.locked = none → f.entered = [] → (doReturn e (T.setTop f) acts (some (.int z))).1 = T.setFrames fs) : Steps p.tables e below (T.setTop (mkF m pc Ls (.int z :: rest))) (T.setFrames fs) :=
  retOut X hx hret rfl (Or.inl ⟨rfl, Or.inl rfl, z, rfl⟩) hd hl
end New
end Jvm.RoadKit
namespace Jvm.Pilot.@@N@@
open Jvm Jvm.ClassFile Sem Op Lib Jvm.Free Jvm.Stand Jvm.LawKit Jvm.RoadKit Bundle Jvm.Pilot.@@N@@.Jvm.D
theorem own_lsw {tb : Tables} [Ours tb] {e : Env} {below : List Frame} {T target : State} {m : MethodId} {c : Code} {g : JFrame} (h : At T m c below) (hx : tb.exec = Jvm.exec) (hg : g.method = m) {dflt : Int} {pairs : Array (Int × Int)} {len : Nat} {o : Int} {pc0 pc' : Nat} (hpc : g.pc = pc0) (hd : decode c.code g.pc = .ok (.lookupswitch dflt pairs, len)) {i : Int32} {rest : List Value} (hs : g.stack = .int i :: rest)
    (hpb : (pairs.toList.zip pairs.toList.tail).all (fun q => decide (q.1.1 < q.2.1)) = true) (hoff : (match pairs.find? (·.1 == i.toInt) with | some (_, o) => o | none => dflt) = o) (ho : 0 ≤ (pc0 : Int) + o) (hp : ((pc0 : Int) + o).toNat = pc')
    (hr : Steps tb e below (T.setTop { g with pc := pc', stack := rest }) target) : Steps tb e below (T.setTop g) target := by
  have hp0 : ∀ (a b a1 b1 : Int), ((a, b), a1, b1) ∈ pairs.toList.zip pairs.toList.tail → a < a1 := fun a b a1 b1 hm => by simpa using List.all_eq_true.mp hpb _ hm
  subst hg hpc hp
  jvm_step h [h.top, hx, hd, hs, lookupswitch.wp_whole]
  refine ⟨hp0, fun acts => ?_⟩
  cases hf : pairs.find? (fun x => x.1 == i.toInt) with
  | none =>
    rw [hf] at hoff
    have hoff : dflt = o := hoff
    subst hoff
    simp [jvm, afterInstr, h.top, Int.not_lt.mpr ho]
    rw [State.modifyTopJava_setTop]
    exact hr
  | some q =>
    rw [hf] at hoff
    obtain ⟨q1, q2⟩ := q
    have hoff : q2 = o := hoff
    subst hoff
    simp [jvm, afterInstr, h.top, Int.not_lt.mpr ho]
    rw [State.modifyTopJava_setTop]
    exact hr
section Own
variable {p : Program} {l : Launch} {e : Env} {R : Room} {s : State} {m : MethodId} {args : Array Value} {below : List Frame} {meth : Method} {c : Code} {T : State} {locs : List Loc} {cells slots : Nat} {Z : State} {h : Heap}
theorem own_ldcm (X : Stand p l e R s m args below meth c T locs cells slots) (hx : p.tables.exec = Jvm.exec) (hZ : Z.Warmed39 s.vm) {a0 : Array Value} {own C : String} {index : Nat} (hown : s.vm.findClass own = some m.cls) (w : (Cond.classLink own index C).before a0 Z = true) (eT : T.heap = h) {mr : Addr} (M : Mir Z C mr)
    {g : JFrame} (hg : g.method = m) (hd : decode c.code g.pc = .ok (.ldc index, 2)) : ∃ T', Stand p l e R s m args below meth c T' locs cells slots ∧ T'.heap = h ∧ ∀ target, Steps p.tables e below (T'.setTop { g with pc := g.pc + 2, stack := .ref mr :: g.stack }) target → Steps p.tables e below (T.setTop g) target := by
  obtain ⟨cc, kc, m1, m2, m3, -⟩ := M
  obtain ⟨k', q, ek⟩ := hZ.alike.2.2 _ _ m2
  have hm : k'.mirror = some mr := by rw [ek]; exact m3
  obtain ⟨vm', X', st⟩ := X.ldcMirror hx hown (mv hZ w) (a := mr) (by simp [Term.eval, hZ.alike.findClass, m1, q, hm]) hg hd
  exact ⟨_, X', eT, st⟩
theorem own_gcls (X : Stand p l e R s m args below meth c T locs cells slots) (hx : p.tables.exec = Jvm.exec) (hZ : Z.Warmed39 s.vm) {a0 : Array Value} {own C : String} {index : Nat} (hown : s.vm.findClass own = some m.cls)
    (w1 : (Cond.methodLink own index ⟨"java/lang/Object", "getClass", "()Ljava/lang/Class;"⟩).before a0 Z = true) (w2 : (Cond.declares ⟨"java/lang/Object", "getClass", "()Ljava/lang/Class;"⟩).before a0 Z = true) (w4 : (Cond.selects C ⟨"java/lang/Object", "getClass", "()Ljava/lang/Class;"⟩ ⟨"java/lang/Object", "getClass", "()Ljava/lang/Class;"⟩).before a0 Z = true)
    (w5 : (Cond.instanceMethod ⟨"java/lang/Object", "getClass", "()Ljava/lang/Class;"⟩).before a0 Z = true) (w6 : (Cond.native ⟨"java/lang/Object", "getClass", "()Ljava/lang/Class;"⟩).before a0 Z = true) (eT : T.heap = h) {a : Addr} (E : Exa Z h a C) {mr : Addr} (M : Mir Z C mr)
    {g : JFrame} (hg : g.method = m) (hsize : g.locals.size = c.maxLocals) {rest : List Value} (hs : g.stack = .ref a :: rest) (hd : decode c.code g.pc = .ok (.invokevirtual index, 3)) (hf : 1 ≤ R.frames) {W : Nat} (hW : 2 * g.monitorRoom + (rest.map fun v => v.category).sum ≤ W) (hl : W + (nativeFrameWords "java/lang/Object" "getClass" 1 + 11) ≤ R.locals) :
    ∃ T', Stand p l e R s m args below meth c T' locs cells slots ∧ T'.heap = h ∧ ∀ target, Steps p.tables e below (T'.setTop { g with pc := g.pc + 3, stack := .ref mr :: rest }) target → Steps p.tables e below (T.setTop g) target := by
  obtain ⟨cB, kB, i1, i2, i3⟩ := isOf hZ eT E
  obtain ⟨cc, kc, m1, m2, m3, -⟩ := M
  rw [hZ.alike.findClass] at i1
  cases i1.symm.trans m1
  obtain ⟨k', q, ek⟩ := hZ.alike.2.2 _ _ m2
  obtain ⟨vm', X', st⟩ := X.getClassOf hx hown (mvT hZ w1) (mvT hZ w2) (notFace_of_selects (args := #[]) (mvT hZ w4)) (mvT hZ w4) (mvT hZ w5) (mvT hZ w6) (by rw [hZ.alike.findClass]; exact m1) i3 q (by rw [ek]; exact m3) hg hsize hs hd hf (by omega)
  exact ⟨_, X', eT, st⟩
end Own
def consts_1 : List (String × Nat) := []
theorem own_safe0 {Z : State} {vm : Vm} {h : Heap} {x : Addr} : Safe Z consts_1 vm h x := fun B => by
  obtain ⟨p, hp, -⟩ := B
  exact absurd hp (List.not_mem_nil)
theorem own_ch0 {Z : State} {vm : Vm} {h : Heap} : CHv Z consts_1 vm h := fun p hp => absurd hp (List.not_mem_nil)
theorem wd {Z : State} {a0 : Array Value} {d : Jvm.Cond} (hw : ∀ d ∈ tables_1, d.before a0 Z = true) (i : Nat) (h : tables_1[i]? = some d) : d.before a0 Z = true := hw d (List.mem_of_getElem? h)
theorem own_selpriv {s : State} {args : Array Value} {y : MethodName} {n : Nat} (hins : (Jvm.Cond.instantiable y.cls n).before args s = true) (hpriv : (Jvm.Cond.privateMethod y).before args s = true) (hinst : (Jvm.Cond.instanceMethod y).before args s = true) (hy : y.cls ≠ "java/lang/invoke/MethodHandle" ∧ y.cls ≠ "java/lang/invoke/VarHandle") :
    (Jvm.Cond.selects y.cls y y).before args s = true := by
  obtain ⟨c, k, hc, hk, -, hniab, -, -⟩ := Cond.instantiable_spec hins
  have hni : k.isInterface = false := (Bool.or_eq_false_iff.mp hniab).1
  obtain ⟨mk, methM, hnamed, hmethM, -, -⟩ := Cond.instanceMethod_spec hinst
  have hfound : s.methodFound? y.cls y.name y.desc = some mk := State.methodFound?_of_named hnamed hy
  have hcls : mk.cls = c := Option.some.inj ((findClass_of_methodNamed hnamed).symm.trans hc)
  have hsel : selectMethod {} s.vm c mk = .method mk := selectMethod_private hmethM (Cond.privateMethod_at hpriv mk methM hnamed hmethM)
  simp only [Cond.before, Cond.holds, Cond.value, hc, hfound, hnamed, hsel, hcls, hk]
  simp; exact hni
theorem own_nsE {Z : State} {h : Heap} {a : Addr} {C : String} (F : Exa Z h a C) : ∀ c : Cell, h[a]? = some c → c.vm.isStatics = false := by
  obtain ⟨c, k, h1, -, -, h4, -⟩ := F
  intro c' hc; cases h1.symm.trans hc; exact h4
theorem own_nsV {Z : State} {h : Heap} {a : Addr} {k : ClassId} {ty : FieldType} {z : Int32} {vs : List Value} {dv : Value} (F : Arv Z h a k ty z vs dv) : ∀ c : Cell, h[a]? = some c → c.vm.isStatics = false := by
  obtain ⟨c, A, -⟩ := F
  intro c' hc; cases A.1.symm.trans hc; exact A.plain
theorem own_stakeep {Z : State} {h h' : Heap} {C n d : String} {v : Value} {ws : List Addr} (F : Sta Z h C n d v) (K : Keep h h' ws) (q : ∀ x ∈ ws, ∀ c : Cell, h[x]? = some c → c.vm.isStatics = false) : Sta Z h' C n d v := by
  obtain ⟨cf, i, k, f, st, cell, h1, h2, h3, h4, h5, h6, h7⟩ := F
  refine ⟨cf, i, k, f, st, cell, h1, h2, h3, h4, K.2.1 _ _ h5 (fun hm => ?_), h6, h7⟩
  rw [q st hm cell h5] at h6; cases h6
theorem own_ex {args : Array Value} {s : State} {t : Term} {C : String} (h : (Jvm.Cond.exactly t C).value args s none s [] = some true) : ∃ a, t.eval args s none [] s = some (.ref a) ∧ Exa s s.heap a C := by
  obtain ⟨a, e1⟩ := exa_v h; exact ⟨a, e1, Exa.start e1 h⟩
theorem own_evI {args : Array Value} {s : State} {t : Term} {z : Int32} (h : (Jvm.Cond.eq t (.int z)).value args s none s [] = some true) : t.eval args s none [] s = some (.int z) := by
  cases hv : t.eval args s none [] s with
  | none => simp [Cond.value, hv] at h
  | some x => cases x <;> simp [Cond.value, Term.eval, hv] at h ⊢; exact h
theorem own_evJ {args : Array Value} {s : State} {t : Term} {z : Int64} (h : (Jvm.Cond.eq t (.long z)).value args s none s [] = some true) : t.eval args s none [] s = some (.long z) := by
  cases hv : t.eval args s none [] s with
  | none => simp [Cond.value, hv] at h
  | some x => cases x <;> simp [Cond.value, Term.eval, hv] at h ⊢; exact h
theorem own_fldV {args : Array Value} {s : State} {t : Term} {a : Addr} {C n d : String} {v : Value} (ev : t.eval args s none [] s = some (.ref a)) (h : (Term.field t C n d).eval args s none [] s = some v) : Fld s s.heap a C n d v := by
  refine Fld.start ?_
  rw [← fld_at (args := args) (first := s) (o := none) (idx := []) ev]; exact h
theorem own_lt (a b : Int32) : a < b ↔ a.toInt < b.toInt := Int32.lt_iff_toInt_lt
theorem own_le (a b : Int32) : a ≤ b ↔ a.toInt ≤ b.toInt := Int32.le_iff_toInt_le
theorem own_eqi (a b : Int32) : a = b ↔ a.toInt = b.toInt := Int32.toInt_inj.symm
theorem own_ltL (a b : Int64) : a < b ↔ a.toInt < b.toInt := Int64.lt_iff_toInt_lt
theorem own_eqL (a b : Int64) : a = b ↔ a.toInt = b.toInt := Int64.toInt_inj.symm
theorem own_evR {args : Array Value} {s : State} {t u : Term} {a : Addr} (h : (Jvm.Cond.eq t u).value args s none s [] = some true) (hu : u.eval args s none [] s = some (.ref a)) : t.eval args s none [] s = some (.ref a) := by
  cases hv : t.eval args s none [] s with
  | none => simp [Cond.value, hv] at h
  | some x => cases x <;> simp [Cond.value, hu, hv] at h ⊢; exact h
theorem own_len {args : Array Value} {s : State} {t : Term} {a : Addr} {cl : Cell} {z : Int32} (ev : t.eval args s none [] s = some (.ref a)) (hc : s.arrayAt? a = some cl) (h : (Term.length t).eval args s none [] s = some (.int z)) : cl.slots.size < 2 ^ 31 ∧ cl.slots.size.toInt32 = z := by
  by_cases q : cl.slots.size < 2147483648
  · simp [Term.eval, ev, hc, q] at h; exact ⟨q, h⟩
  · simp [Term.eval, ev, hc, q] at h
theorem own_pos (x : Int32) : 0 ≤ (x &&& (2147483647 : Int32)).toInt ∧ (x &&& (2147483647 : Int32)).toInt < 2147483648 := by
  have h := c_mask x 2147483647 31 (by decide) (by decide)
  rw [h]; omega
theorem own_mod6 (x : Int32) : (x &&& (2147483647 : Int32)) % (6 : Int32) = (0 : Int32) ∨ (x &&& (2147483647 : Int32)) % (6 : Int32) = (1 : Int32) ∨ (x &&& (2147483647 : Int32)) % (6 : Int32) = (2 : Int32) ∨ (x &&& (2147483647 : Int32)) % (6 : Int32) = (3 : Int32) ∨ (x &&& (2147483647 : Int32)) % (6 : Int32) = (4 : Int32) ∨ (x &&& (2147483647 : Int32)) % (6 : Int32) = (5 : Int32) := by
  have h := own_pos x
  have q := (c_irem (x &&& (2147483647 : Int32)) (6 : Int32) 6 rfl).1 h.1
  simp only [own_eqi]
  rw [q]
  rw [show (0 : Int32).toInt = 0 from rfl, show (1 : Int32).toInt = 1 from rfl, show (2 : Int32).toInt = 2 from rfl, show (3 : Int32).toInt = 3 from rfl, show (4 : Int32).toInt = 4 from rfl, show (5 : Int32).toInt = 5 from rfl]
  omega

theorem pn_0 : plainName "java/util/AbstractCollection" = true := by first | (simp [plainName, overriddenIn]; done) | decide +kernel
theorem d1_0 : decode jdk_22_method_1_code 0 = .ok (.aload_n 0, 1) := by decide +kernel
theorem d1_1 : decode jdk_22_method_1_code 1 = .ok (.invokespecial 1, 3) := by decide +kernel
theorem d1_4 : decode jdk_22_method_1_code 4 = .ok (.return_, 1) := by decide +kernel
theorem ef_1 (m : MethodId) (a1_0 : Addr) : entryFrame m #[(.ref a1_0)] 1 = mkF m 0 #[.val (.ref a1_0)] [] := by first | (simp [entryFrame, mkF, argsToLocals, Value.category]; done) | rfl
def Q1 (Z : State) (a1_0 : Addr) (h0 : Heap) (n0 : Nat) (v : Option Value) (h : Heap) (L : List Loc) : Prop := v = none ∧ Fr n0 L ∧ h = h0
set_option maxRecDepth 65536 in
set_option maxHeartbeats 40000000 in
theorem rm1 (l : Launch) (Z : State) (a0 : Array Value) (hw : ∀ d ∈ tables_1, d.before a0 Z = true) (ws : List Jvm.Cond) (a1_0 : Addr) (h0 : Heap) (n0 : Nat) (Z0 : n0 ≤ h0.size) :
    MetFree l (⟨"java/util/AbstractCollection", "<init>", "()V"⟩ : MethodName) (head1 (Jvm.Cond.code (⟨"java/util/AbstractCollection", "<init>", "()V"⟩ : MethodName) jdk_22_method_1_code 1 none :: ws) ({ frames := 1, cells := 0, slots := 0, locals := 12 } : Room)) (fun a U => a = #[(.ref a1_0)] ∧ Z.Warmed39 U.vm ∧ U.heap = h0) (fun _ _ _ _ _ => True) (fun _ U o U' => ∃ v L, o = .returned v ∧ Q1 Z a1_0 h0 n0 v U'.heap L ∧ FrameEnd U o U' L ({ frames := 1, cells := 0, slots := 0, locals := 12 } : Room).cells ({ frames := 1, cells := 0, slots := 0, locals := 12 } : Room).slots) := by
  refine MetFree.of_bodySF (plainFor_of_name pn_0) hisR ?_
  intro p e s m args below meth c s₁ Bd hml0 hP hK
  obtain ⟨rfl, hZ, hh⟩ := hP
  have hx := Bd.exec
  have hby := Bd.bytes
  have hml : c.maxLocals = 1 := hml0
  have hown : s.vm.findClass "java/util/AbstractCollection" = some m.cls := findClass_of_methodNamed Bd.named
  have hnm := (name_of_methodNamed Bd.named Bd.method).1
  have X0 : Stand p l e ({ frames := 1, cells := 0, slots := 0, locals := 12 } : Room) s m #[(.ref a1_0)] below meth c s₁ [] 0 0 := Stand.of_body Bd
  have e0 : s₁.heap = h0 := by rw [← hh, Bd.state]; rfl
  have N0 := Fr.nil n0
  have pre0 : ∀ t, Steps p.tables e below (s₁.setTop (mkF m 0 #[.val (.ref a1_0)] [])) t → Steps p.tables e below (s₁.setTop (entryFrame m #[(.ref a1_0)] 1)) t := fun t k => castTop (ef_1 m a1_0) k
  obtain ⟨T1, X1, e1, st1⟩ := initO X0 hx hZ hown (wd hw 39 rfl) (wd hw 19 rfl) (wd hw 20 rfl) e0 (g := (mkF m 1 #[.val (.ref a1_0)] [(.ref a1_0)])) rfl (by rw [hml]; rfl) rfl (hb hby d1_1) (by decide) (W := 0) (by show 2 * 0 + _ ≤ _; exact Nat.le_of_eq rfl) (by decide)
  have k2 : ∀ t, Steps p.tables e below (T1.setTop (mkF m 4 #[.val (.ref a1_0)] [])) t → Steps p.tables e below (s₁.setTop (entryFrame m #[(.ref a1_0)] 1)) t := by
    intro t k
    refine pre0 t ?_
    refine XS.aloadN X0.here hx rfl (hb hby d1_0) rfl rfl ?_
    refine st1 _ ?_
    exact k
  obtain ⟨fs, hr, hrun, hended, hW, hsame⟩ := X1.leave (v := none) (fun _ => rfl)
  refine ⟨_, _, k2 _ ?_, hrun, hended, _, _, rfl, ?_, ⟨_, rfl⟩, hW, hsame.mono (by decide) (by decide)⟩
  · exact X1.returnOut hx Bd.returns (hb hby d1_4) hr
  · show Q1 Z a1_0 h0 n0 _ T1.heap _
    rw [e1]
    exact ⟨rfl, N0, rfl⟩
theorem pn_1 : plainName "java/util/AbstractList" = true := by first | (simp [plainName, overriddenIn]; done) | decide +kernel
theorem pd_0 : parseMethodDescriptor "()V" = some ⟨[], none⟩ := by decide +kernel
theorem d2_0 : decode jdk_39_method_1_code 0 = .ok (.aload_n 0, 1) := by decide +kernel
theorem d2_1 : decode jdk_39_method_1_code 1 = .ok (.invokespecial 1, 3) := by decide +kernel
theorem d2_4 : decode jdk_39_method_1_code 4 = .ok (.aload_n 0, 1) := by decide +kernel
theorem d2_5 : decode jdk_39_method_1_code 5 = .ok (.iconst 0, 1) := by decide +kernel
theorem d2_6 : decode jdk_39_method_1_code 6 = .ok (.putfield 7, 3) := by decide +kernel
theorem d2_9 : decode jdk_39_method_1_code 9 = .ok (.return_, 1) := by decide +kernel
theorem ef_2 (m : MethodId) (a2_0 : Addr) : entryFrame m #[(.ref a2_0)] 1 = mkF m 0 #[.val (.ref a2_0)] [] := by first | (simp [entryFrame, mkF, argsToLocals, Value.category]; done) | rfl
def Q2 (Z : State) (a2_0 : Addr) (h0 : Heap) (n0 : Nat) (v : Option Value) (h : Heap) (L : List Loc) : Prop := v = none ∧ Fr n0 L ∧ Keep h0 h [a2_0] ∧ Exa Z h a2_0 "java/util/ArrayList" ∧ Fld Z h a2_0 "java/util/AbstractList" "modCount" "I" (.int (0 : Int32)) ∧ Fld Z h a2_0 "java/util/ArrayList" "size" "I" (.int (0 : Int32)) ∧ Fld Z h a2_0 "java/util/ArrayList" "elementData" "[Ljava/lang/Object;" .null
set_option maxRecDepth 65536 in
set_option maxHeartbeats 40000000 in
theorem rm2 (l : Launch) (Z : State) (a0 : Array Value) (hw : ∀ d ∈ tables_1, d.before a0 Z = true) (ws : List Jvm.Cond) (a2_0 : Addr) (h0 : Heap) (n0 : Nat) (Z0 : n0 ≤ h0.size) (Ea : Exa Z h0 a2_0 "java/util/ArrayList") (Fm : Fld Z h0 a2_0 "java/util/AbstractList" "modCount" "I" (.int (0 : Int32))) (Fz : Fld Z h0 a2_0 "java/util/ArrayList" "size" "I" (.int (0 : Int32))) (Fe : Fld Z h0 a2_0 "java/util/ArrayList" "elementData" "[Ljava/lang/Object;" .null) (g_a2_0 : n0 ≤ a2_0) :
    MetFree l (⟨"java/util/AbstractList", "<init>", "()V"⟩ : MethodName) (head1 (Jvm.Cond.code (⟨"java/util/AbstractList", "<init>", "()V"⟩ : MethodName) jdk_39_method_1_code 1 none :: ws) ({ frames := 2, cells := 0, slots := 0, locals := 24 } : Room)) (fun a U => a = #[(.ref a2_0)] ∧ Z.Warmed39 U.vm ∧ U.heap = h0) (fun _ _ _ _ _ => True) (fun _ U o U' => ∃ v L, o = .returned v ∧ Q2 Z a2_0 h0 n0 v U'.heap L ∧ FrameEnd U o U' L ({ frames := 2, cells := 0, slots := 0, locals := 24 } : Room).cells ({ frames := 2, cells := 0, slots := 0, locals := 24 } : Room).slots) := by
  refine MetFree.of_bodySF (plainFor_of_name pn_1) hisR ?_
  intro p e s m args below meth c s₁ Bd hml0 hP hK
  obtain ⟨rfl, hZ, hh⟩ := hP
  have hx := Bd.exec
  have hby := Bd.bytes
  have hml : c.maxLocals = 1 := hml0
  have hown : s.vm.findClass "java/util/AbstractList" = some m.cls := findClass_of_methodNamed Bd.named
  have hnm := (name_of_methodNamed Bd.named Bd.method).1
  have X0 : Stand p l e ({ frames := 2, cells := 0, slots := 0, locals := 24 } : Room) s m #[(.ref a2_0)] below meth c s₁ [] 0 0 := Stand.of_body Bd
  have e0 : s₁.heap = h0 := by rw [← hh, Bd.state]; rfl
  have N0 := Fr.nil n0
  have pre0 : ∀ t, Steps p.tables e below (s₁.setTop (mkF m 0 #[.val (.ref a2_0)] [])) t → Steps p.tables e below (s₁.setTop (entryFrame m #[(.ref a2_0)] 1)) t := fun t k => castTop (ef_2 m a2_0) k
  obtain ⟨_, _, ⟨T1, L1, k1, n1⟩, -, X1, ⟨Lc1, hQ1, l1, y1, z1⟩, st1⟩ := X0.specialBack hx (y := (⟨"java/util/AbstractCollection", "<init>", "()V"⟩ : MethodName)) rfl hown (mvT hZ (wd hw 33 rfl)) (mvT hZ (wd hw 34 rfl)) (mvT hZ (wd hw 38 rfl)) (by decide) (backOf (W := 0) (rm1 l Z a0 hw [] a2_0 h0 n0 Z0 ) hZ (wd hw 38 rfl) (wd hw 37 rfl) (by decide) (by decide)) (g := (mkF m 1 #[.val (.ref a2_0)] [(.ref a2_0)])) rfl (by rw [hml]; rfl) (Steps.refl _) (a := a2_0) (argsL := []) (rest := []) (lenOf pd_0 rfl) rfl (by show 2 * 0 + _ ≤ _; exact Nat.le_of_eq rfl) (hb hby d2_1) (fun _ _ => ⟨rfl, e0, (by decide : 0 + 0 ≤ _), (by decide : 0 + 0 ≤ _)⟩)
  dsimp only [Pt.U, Pt.locs, Pt.cells, Pt.slots] at X1 l1 y1 z1 st1 hQ1
  rw [l1, y1, z1] at X1
  obtain ⟨rfl, N1q, eh1⟩ := hQ1
  have N1 := Fr.app N0 N1q
  obtain ⟨T2, h2, X2, e2, W2, st2⟩ := putF X1 hx hZ hown (host := "") (Or.inl (wd hw 40 rfl)) Via.refl eh1 Fm Ea (Or.inl (wd hw 41 rfl)) (wd hw 22 rfl) (ty := .int) (by decide) rfl rfl (g := (mkF m 6 #[.val (.ref a2_0)] [(.int (0 : Int32)), (.ref a2_0)])) rfl rfl (hb hby d2_6)
  have Fw2 : Fld Z h2 a2_0 "java/util/AbstractList" "modCount" "I" (.int (0 : Int32)) := Fm.same W2
  have F3 := Ea.wr W2
  have F5 := Fz.other W2 (Or.inr (slot_ne (Or.inl (wd hw 124 rfl)) (Or.inl (wd hw 41 rfl)) (by decide) (t := .int) (t' := .int) (by decide) (by decide)))
  have F6 := Fe.other W2 (Or.inr (slot_ne (Or.inl (wd hw 44 rfl)) (Or.inl (wd hw 41 rfl)) (by decide) (t := (.array (.object "java/lang/Object"))) (t' := .int) (by decide) (by decide)))
  have N2 := Fr.snoc X2 N1 g_a2_0
  have K2 : Keep h0 h2 [a2_0] := (Keep.refl h0 [a2_0]).wr W2 (Or.inl (List.mem_of_getElem? (i := 0) rfl))
  have Zs2 : n0 ≤ h2.size := by rw [W2.size]; exact Z0
  have k7 : ∀ t, Steps p.tables e below (T2.setTop (mkF m 9 #[.val (.ref a2_0)] [])) t → Steps p.tables e below (s₁.setTop (entryFrame m #[(.ref a2_0)] 1)) t := by
    intro t k
    refine pre0 t ?_
    refine XS.aloadN X0.here hx rfl (hb hby d2_0) rfl rfl ?_
    refine st1.trans ?_
    refine XS.aloadN X1.here hx rfl (hb hby d2_4) rfl rfl ?_
    refine XS.iconst X1.here hx rfl (hb hby d2_5) ?_
    refine st2 _ ?_
    exact k
  obtain ⟨fs, hr, hrun, hended, hW, hsame⟩ := X2.leave (v := none) (fun _ => rfl)
  refine ⟨_, _, k7 _ ?_, hrun, hended, _, _, rfl, ?_, ⟨_, rfl⟩, hW, hsame.mono (by decide) (by decide)⟩
  · exact X2.returnOut hx Bd.returns (hb hby d2_9) hr
  · show Q2 Z a2_0 h0 n0 _ T2.heap _
    rw [e2]
    exact ⟨rfl, N2, K2, F3, Fw2, F5, F6⟩
theorem pn_2 : plainName "java/util/ArrayList" = true := by first | (simp [plainName, overriddenIn]; done) | decide +kernel
theorem d3_0 : decode jdk_38_method_2_code 0 = .ok (.aload_n 0, 1) := by decide +kernel
theorem d3_1 : decode jdk_38_method_2_code 1 = .ok (.invokespecial 1, 3) := by decide +kernel
theorem d3_4 : decode jdk_38_method_2_code 4 = .ok (.aload_n 0, 1) := by decide +kernel
theorem d3_5 : decode jdk_38_method_2_code 5 = .ok (.getstatic 39, 3) := by decide +kernel
theorem d3_8 : decode jdk_38_method_2_code 8 = .ok (.putfield 9, 3) := by decide +kernel
theorem d3_11 : decode jdk_38_method_2_code 11 = .ok (.return_, 1) := by decide +kernel
theorem ef_3 (m : MethodId) (a3_0 : Addr) : entryFrame m #[(.ref a3_0)] 1 = mkF m 0 #[.val (.ref a3_0)] [] := by first | (simp [entryFrame, mkF, argsToLocals, Value.category]; done) | rfl
def Q3 (Z : State) (a3_0 : Addr) (u_DEFAULTCAPACITY_EMPTY_ELEMENTDATA : Addr) (h0 : Heap) (n0 : Nat) (v : Option Value) (h : Heap) (L : List Loc) : Prop := v = none ∧ Fr n0 L ∧ Keep h0 h [a3_0] ∧ Exa Z h a3_0 "java/util/ArrayList" ∧ Fld Z h a3_0 "java/util/AbstractList" "modCount" "I" (.int (0 : Int32)) ∧ Fld Z h a3_0 "java/util/ArrayList" "size" "I" (.int (0 : Int32)) ∧ Fld Z h a3_0 "java/util/ArrayList" "elementData" "[Ljava/lang/Object;" (.ref u_DEFAULTCAPACITY_EMPTY_ELEMENTDATA)
set_option maxRecDepth 65536 in
set_option maxHeartbeats 40000000 in
theorem rm3 (l : Launch) (Z : State) (a0 : Array Value) (hw : ∀ d ∈ tables_1, d.before a0 Z = true) (ws : List Jvm.Cond) (a3_0 : Addr) (u_DEFAULTCAPACITY_EMPTY_ELEMENTDATA : Addr) (h0 : Heap) (n0 : Nat) (Z0 : n0 ≤ h0.size) (Ea : Exa Z h0 a3_0 "java/util/ArrayList") (Fm : Fld Z h0 a3_0 "java/util/AbstractList" "modCount" "I" (.int (0 : Int32))) (Fz : Fld Z h0 a3_0 "java/util/ArrayList" "size" "I" (.int (0 : Int32))) (Fe : Fld Z h0 a3_0 "java/util/ArrayList" "elementData" "[Ljava/lang/Object;" .null) (S_DEFAULTCAPACITY_EMPTY_ELEMENTDATA : Sta Z h0 "java/util/ArrayList" "DEFAULTCAPACITY_EMPTY_ELEMENTDATA" "[Ljava/lang/Object;" (.ref u_DEFAULTCAPACITY_EMPTY_ELEMENTDATA)) (g_a3_0 : n0 ≤ a3_0) :
    MetFree l (⟨"java/util/ArrayList", "<init>", "()V"⟩ : MethodName) (head1 (Jvm.Cond.code (⟨"java/util/ArrayList", "<init>", "()V"⟩ : MethodName) jdk_38_method_2_code 1 none :: ws) ({ frames := 3, cells := 0, slots := 0, locals := 36 } : Room)) (fun a U => a = #[(.ref a3_0)] ∧ Z.Warmed39 U.vm ∧ U.heap = h0) (fun _ _ _ _ _ => True) (fun _ U o U' => ∃ v L, o = .returned v ∧ Q3 Z a3_0 u_DEFAULTCAPACITY_EMPTY_ELEMENTDATA h0 n0 v U'.heap L ∧ FrameEnd U o U' L ({ frames := 3, cells := 0, slots := 0, locals := 36 } : Room).cells ({ frames := 3, cells := 0, slots := 0, locals := 36 } : Room).slots) := by
  refine MetFree.of_bodySF (plainFor_of_name pn_2) hisR ?_
  intro p e s m args below meth c s₁ Bd hml0 hP hK
  obtain ⟨rfl, hZ, hh⟩ := hP
  have hx := Bd.exec
  have hby := Bd.bytes
  have hml : c.maxLocals = 1 := hml0
  have hown : s.vm.findClass "java/util/ArrayList" = some m.cls := findClass_of_methodNamed Bd.named
  have hnm := (name_of_methodNamed Bd.named Bd.method).1
  have X0 : Stand p l e ({ frames := 3, cells := 0, slots := 0, locals := 36 } : Room) s m #[(.ref a3_0)] below meth c s₁ [] 0 0 := Stand.of_body Bd
  have e0 : s₁.heap = h0 := by rw [← hh, Bd.state]; rfl
  have N0 := Fr.nil n0
  have pre0 : ∀ t, Steps p.tables e below (s₁.setTop (mkF m 0 #[.val (.ref a3_0)] [])) t → Steps p.tables e below (s₁.setTop (entryFrame m #[(.ref a3_0)] 1)) t := fun t k => castTop (ef_3 m a3_0) k
  obtain ⟨_, _, ⟨T1, L1, k1, n1⟩, -, X1, ⟨Lc1, hQ1, l1, y1, z1⟩, st1⟩ := X0.specialBack hx (y := (⟨"java/util/AbstractList", "<init>", "()V"⟩ : MethodName)) rfl hown (mvT hZ (wd hw 27 rfl)) (mvT hZ (wd hw 28 rfl)) (mvT hZ (wd hw 32 rfl)) (by decide) (backOf (W := 0) (rm2 l Z a0 hw [] a3_0 h0 n0 Z0 Ea Fm Fz Fe g_a3_0) hZ (wd hw 32 rfl) (wd hw 31 rfl) (by decide) (by decide)) (g := (mkF m 1 #[.val (.ref a3_0)] [(.ref a3_0)])) rfl (by rw [hml]; rfl) (Steps.refl _) (a := a3_0) (argsL := []) (rest := []) (lenOf pd_0 rfl) rfl (by show 2 * 0 + _ ≤ _; exact Nat.le_of_eq rfl) (hb hby d3_1) (fun _ _ => ⟨rfl, e0, (by decide : 0 + 0 ≤ _), (by decide : 0 + 0 ≤ _)⟩)
  dsimp only [Pt.U, Pt.locs, Pt.cells, Pt.slots] at X1 l1 y1 z1 st1 hQ1
  rw [l1, y1, z1] at X1
  obtain ⟨rfl, N1q, Kc1, G1_0, G1_1, G1_2, G1_3⟩ := hQ1
  have Zs1 : n0 ≤ T1.heap.size := Nat.le_trans Z0 Kc1.1
  have K1 : Keep h0 T1.heap [a3_0] := (Keep.refl h0 [a3_0]).trans Kc1 (allS (Or.inl (List.mem_of_getElem? (i := 0) rfl)) all0)
  have F2 := own_stakeep S_DEFAULTCAPACITY_EMPTY_ELEMENTDATA Kc1 (allS (own_nsE Ea) all0)
  have N1 := Fr.app N0 N1q
  obtain ⟨T3, X3, e3, st3⟩ := getS2 X1 hx hZ hown (host := "") (Or.inl (wd hw 42 rfl)) Via.refl rfl F2 (g := (mkF m 5 #[.val (.ref a3_0)] [(.ref a3_0)])) rfl (hb hby d3_5)
  obtain ⟨T4, h4, X4, e4, W4, st4⟩ := putF X3 hx hZ hown (host := "") (Or.inl (wd hw 43 rfl)) Via.refl e3 G1_3 G1_0 (Or.inl (wd hw 44 rfl)) (wd hw 22 rfl) (ty := (.array (.object "java/lang/Object"))) (by decide) rfl rfl (g := (mkF m 8 #[.val (.ref a3_0)] [(.ref u_DEFAULTCAPACITY_EMPTY_ELEMENTDATA), (.ref a3_0)])) rfl rfl (hb hby d3_8)
  have Fw4 : Fld Z h4 a3_0 "java/util/ArrayList" "elementData" "[Ljava/lang/Object;" (.ref u_DEFAULTCAPACITY_EMPTY_ELEMENTDATA) := G1_3.same W4
  have F5 := F2.wr W4
  have F6 := G1_0.wr W4
  have F7 := G1_1.other W4 (Or.inr (slot_ne (Or.inl (wd hw 41 rfl)) (Or.inl (wd hw 44 rfl)) (by decide) (t := .int) (t' := (.array (.object "java/lang/Object"))) (by decide) (by decide)))
  have F8 := G1_2.other W4 (Or.inr (slot_ne (Or.inl (wd hw 124 rfl)) (Or.inl (wd hw 44 rfl)) (by decide) (t := .int) (t' := (.array (.object "java/lang/Object"))) (by decide) (by decide)))
  have N4 := Fr.snoc X4 N1 g_a3_0
  have K4 : Keep h0 h4 [a3_0] := K1.wr W4 (Or.inl (List.mem_of_getElem? (i := 0) rfl))
  have Zs4 : n0 ≤ h4.size := by rw [W4.size]; exact Zs1
  have k10 : ∀ t, Steps p.tables e below (T4.setTop (mkF m 11 #[.val (.ref a3_0)] [])) t → Steps p.tables e below (s₁.setTop (entryFrame m #[(.ref a3_0)] 1)) t := by
    intro t k
    refine pre0 t ?_
    refine XS.aloadN X0.here hx rfl (hb hby d3_0) rfl rfl ?_
    refine st1.trans ?_
    refine XS.aloadN X1.here hx rfl (hb hby d3_4) rfl rfl ?_
    refine st3 _ ?_
    refine st4 _ ?_
    exact k
  obtain ⟨fs, hr, hrun, hended, hW, hsame⟩ := X4.leave (v := none) (fun _ => rfl)
  refine ⟨_, _, k10 _ ?_, hrun, hended, _, _, rfl, ?_, ⟨_, rfl⟩, hW, hsame.mono (by decide) (by decide)⟩
  · exact X4.returnOut hx Bd.returns (hb hby d3_11) hr
  · show Q3 Z a3_0 u_DEFAULTCAPACITY_EMPTY_ELEMENTDATA h0 n0 _ T4.heap _
    rw [e4]
    exact ⟨rfl, N4, K4, F6, F7, F8, Fw4⟩
theorem pn_3 : plainName "com/example/batchrake/batchrake/DeleteReport" = true := by first | (simp [plainName, overriddenIn]; done) | decide +kernel
theorem d4_0 : decode prog_1_method_2_code 0 = .ok (.aload_n 0, 1) := by decide +kernel
theorem d4_1 : decode prog_1_method_2_code 1 = .ok (.invokespecial 9, 3) := by decide +kernel
theorem d4_4 : decode prog_1_method_2_code 4 = .ok (.aload_n 0, 1) := by decide +kernel
theorem d4_5 : decode prog_1_method_2_code 5 = .ok (.new 14, 3) := by decide +kernel
theorem d4_8 : decode prog_1_method_2_code 8 = .ok (.dup, 1) := by decide +kernel
theorem d4_9 : decode prog_1_method_2_code 9 = .ok (.invokespecial 16, 3) := by decide +kernel
theorem d4_12 : decode prog_1_method_2_code 12 = .ok (.putfield 17, 3) := by decide +kernel
theorem d4_15 : decode prog_1_method_2_code 15 = .ok (.aload_n 0, 1) := by decide +kernel
theorem d4_16 : decode prog_1_method_2_code 16 = .ok (.aload_n 1, 1) := by decide +kernel
theorem d4_17 : decode prog_1_method_2_code 17 = .ok (.putfield 21, 3) := by decide +kernel
theorem d4_20 : decode prog_1_method_2_code 20 = .ok (.aload_n 0, 1) := by decide +kernel
theorem d4_21 : decode prog_1_method_2_code 21 = .ok (.aload_n 2, 1) := by decide +kernel
theorem d4_22 : decode prog_1_method_2_code 22 = .ok (.putfield 25, 3) := by decide +kernel
theorem d4_25 : decode prog_1_method_2_code 25 = .ok (.return_, 1) := by decide +kernel
theorem ef_4 (m : MethodId) (a4_0 : Addr) (a4_2 : Addr) : entryFrame m #[(.ref a4_0), .null, (.ref a4_2)] 3 = mkF m 0 #[.val (.ref a4_0), .val .null, .val (.ref a4_2)] [] := by first | (simp [entryFrame, mkF, argsToLocals, Value.category]; done) | rfl
def Q4 (Z : State) (a4_0 : Addr) (a4_2 : Addr) (u_DEFAULTCAPACITY_EMPTY_ELEMENTDATA : Addr) (h0 : Heap) (n0 : Nat) (v : Option Value) (h : Heap) (L : List Loc) : Prop := ∃ lx : Addr, v = none ∧ Fr n0 L ∧ Keep h0 h [a4_0] ∧ n0 ≤ lx ∧ h0.size ≤ lx ∧ Exa Z h a4_0 "com/example/batchrake/batchrake/DeleteReport" ∧ Fld Z h a4_0 "com/example/batchrake/batchrake/DeleteReport" "failures" "Ljava/util/List;" (.ref lx) ∧ Fld Z h a4_0 "com/example/batchrake/batchrake/DeleteReport" "deleted" "I" (.int (0 : Int32)) ∧ Fld Z h a4_0 "com/example/batchrake/batchrake/DeleteReport" "notFound" "I" (.int (0 : Int32)) ∧ Exa Z h lx "java/util/ArrayList" ∧ Fld Z h lx "java/util/AbstractList" "modCount" "I" (.int (0 : Int32)) ∧ Fld Z h lx "java/util/ArrayList" "size" "I" (.int (0 : Int32)) ∧ Fld Z h lx "java/util/ArrayList" "elementData" "[Ljava/lang/Object;" (.ref u_DEFAULTCAPACITY_EMPTY_ELEMENTDATA)
set_option maxRecDepth 65536 in
set_option maxHeartbeats 40000000 in
theorem rm4 (l : Launch) (Z : State) (a0 : Array Value) (hw : ∀ d ∈ tables_1, d.before a0 Z = true) (ws : List Jvm.Cond) (a4_0 : Addr) (a4_2 : Addr) (u_DEFAULTCAPACITY_EMPTY_ELEMENTDATA : Addr) (h0 : Heap) (n0 : Nat) (Z0 : n0 ≤ h0.size) (Er : Exa Z h0 a4_0 "com/example/batchrake/batchrake/DeleteReport") (Ff : Fld Z h0 a4_0 "com/example/batchrake/batchrake/DeleteReport" "failures" "Ljava/util/List;" .null) (Fd : Fld Z h0 a4_0 "com/example/batchrake/batchrake/DeleteReport" "deleted" "I" (.int (0 : Int32))) (Fn : Fld Z h0 a4_0 "com/example/batchrake/batchrake/DeleteReport" "notFound" "I" (.int (0 : Int32))) (Fs1 : Fld Z h0 a4_0 "com/example/batchrake/batchrake/DeleteReport" "refusalStatus" "Ljava/lang/String;" .null) (Fs2 : Fld Z h0 a4_0 "com/example/batchrake/batchrake/DeleteReport" "refusalReason" "Ljava/lang/String;" .null) (S_DEFAULTCAPACITY_EMPTY_ELEMENTDATA : Sta Z h0 "java/util/ArrayList" "DEFAULTCAPACITY_EMPTY_ELEMENTDATA" "[Ljava/lang/Object;" (.ref u_DEFAULTCAPACITY_EMPTY_ELEMENTDATA)) (g_a4_0 : n0 ≤ a4_0) :
    MetFree l (⟨"com/example/batchrake/batchrake/DeleteReport", "<init>", "(Ljava/lang/String;Ljava/lang/String;)V"⟩ : MethodName) (head1 (Jvm.Cond.code (⟨"com/example/batchrake/batchrake/DeleteReport", "<init>", "(Ljava/lang/String;Ljava/lang/String;)V"⟩ : MethodName) prog_1_method_2_code 3 none :: ws) ({ frames := 4, cells := 1, slots := 3, locals := 50 } : Room)) (fun a U => a = #[(.ref a4_0), .null, (.ref a4_2)] ∧ Z.Warmed39 U.vm ∧ U.heap = h0) (fun _ _ _ _ _ => True) (fun _ U o U' => ∃ v L, o = .returned v ∧ Q4 Z a4_0 a4_2 u_DEFAULTCAPACITY_EMPTY_ELEMENTDATA h0 n0 v U'.heap L ∧ FrameEnd U o U' L ({ frames := 4, cells := 1, slots := 3, locals := 50 } : Room).cells ({ frames := 4, cells := 1, slots := 3, locals := 50 } : Room).slots) := by
  refine MetFree.of_bodySF (plainFor_of_name pn_3) hisR ?_
  intro p e s m args below meth c s₁ Bd hml0 hP hK
  obtain ⟨rfl, hZ, hh⟩ := hP
  have hx := Bd.exec
  have hby := Bd.bytes
  have hml : c.maxLocals = 3 := hml0
  have hown : s.vm.findClass "com/example/batchrake/batchrake/DeleteReport" = some m.cls := findClass_of_methodNamed Bd.named
  have hnm := (name_of_methodNamed Bd.named Bd.method).1
  have X0 : Stand p l e ({ frames := 4, cells := 1, slots := 3, locals := 50 } : Room) s m #[(.ref a4_0), .null, (.ref a4_2)] below meth c s₁ [] 0 0 := Stand.of_body Bd
  have e0 : s₁.heap = h0 := by rw [← hh, Bd.state]; rfl
  have N0 := Fr.nil n0
  have pre0 : ∀ t, Steps p.tables e below (s₁.setTop (mkF m 0 #[.val (.ref a4_0), .val .null, .val (.ref a4_2)] [])) t → Steps p.tables e below (s₁.setTop (entryFrame m #[(.ref a4_0), .null, (.ref a4_2)] 3)) t := fun t k => castTop (ef_4 m a4_0 a4_2) k
  obtain ⟨T1, X1, e1, st1⟩ := initO X0 hx hZ hown (wd hw 18 rfl) (wd hw 19 rfl) (wd hw 20 rfl) e0 (g := (mkF m 1 #[.val (.ref a4_0), .val .null, .val (.ref a4_2)] [(.ref a4_0)])) rfl (by rw [hml]; rfl) rfl (hb hby d4_1) (by decide) (W := 0) (by show 2 * 0 + _ ≤ _; exact Nat.le_of_eq rfl) (by decide)
  obtain ⟨b2, g2⟩ : ∃ z, z = h0.size := ⟨_, rfl⟩
  obtain ⟨T2, h2, X2, e2, E2, A2, D2, -, st2⟩ := newO X1 hx hZ hown (wd hw 21 rfl) (wd hw 22 rfl) (wd hw 23 rfl) e1 (g := (mkF m 5 #[.val (.ref a4_0), .val .null, .val (.ref a4_2)] [(.ref a4_0)])) rfl (hb hby d4_5) (by decide) (by decide)
  rw [← g2] at A2 D2 st2
  have ne3 : a4_0 ≠ b2 := Nat.ne_of_lt (Nat.lt_of_lt_of_le Er.lt (Nat.le_of_eq g2.symm))
  have gg2 : n0 ≤ b2 := Nat.le_trans Z0 (Nat.le_of_eq g2.symm)
  have sz2 : h0.size ≤ b2 := Nat.le_trans (Keep.refl h0 [a4_0]).1 (Nat.le_of_eq g2.symm)
  have Zs2 : n0 ≤ h2.size := Nat.le_trans Z0 E2.1
  have K2 : Keep h0 h2 [a4_0] := (Keep.refl h0 [a4_0]).ext E2
  have F4 := Er.ext E2
  have F5 := Ff.ext E2
  have F6 := Fd.ext E2
  have F7 := Fn.ext E2
  have F8 := Fs1.ext E2
  have F9 := Fs2.ext E2
  have F10 := S_DEFAULTCAPACITY_EMPTY_ELEMENTDATA.ext E2
  have F11 : Fld Z h2 b2 "java/util/AbstractList" "modCount" "I" (.int (0 : Int32)) := D2 (Or.inl (wd hw 41 rfl)) (ty := .int) (by decide)
  have F12 : Fld Z h2 b2 "java/util/ArrayList" "elementData" "[Ljava/lang/Object;" .null := D2 (Or.inl (wd hw 44 rfl)) (ty := (.array (.object "java/lang/Object"))) (by decide)
  have F13 : Fld Z h2 b2 "java/util/ArrayList" "size" "I" (.int (0 : Int32)) := D2 (Or.inl (wd hw 124 rfl)) (ty := .int) (by decide)
  obtain ⟨_, _, ⟨T14, L14, k14, n14⟩, -, X14, ⟨Lc14, hQ14, l14, y14, z14⟩, st14⟩ := X2.specialBack hx (y := (⟨"java/util/ArrayList", "<init>", "()V"⟩ : MethodName)) rfl hown (mvT hZ (wd hw 24 rfl)) (mvT hZ (wd hw 25 rfl)) (mvT hZ (wd hw 26 rfl)) (by decide) (backOf (W := 2) (rm3 l Z a0 hw [] b2 u_DEFAULTCAPACITY_EMPTY_ELEMENTDATA h2 n0 Zs2 A2 F11 F13 F12 F10 gg2) hZ (wd hw 26 rfl) (wd hw 23 rfl) (by decide) (by decide)) (g := (mkF m 9 #[.val (.ref a4_0), .val .null, .val (.ref a4_2)] [(.ref b2), (.ref b2), (.ref a4_0)])) rfl (by rw [hml]; rfl) (Steps.refl _) (a := b2) (argsL := []) (rest := [(.ref b2), (.ref a4_0)]) (lenOf pd_0 rfl) rfl (by show 2 * 0 + _ ≤ _; exact Nat.le_of_eq rfl) (hb hby d4_9) (fun _ _ => ⟨rfl, e2, (by decide : 1 + 0 ≤ _), (by decide : 3 + 0 ≤ _)⟩)
  dsimp only [Pt.U, Pt.locs, Pt.cells, Pt.slots] at X14 l14 y14 z14 st14 hQ14
  rw [l14, y14, z14] at X14
  obtain ⟨rfl, N14q, Kc14, G14_0, G14_1, G14_2, G14_3⟩ := hQ14
  have Zs14 : n0 ≤ T14.heap.size := Nat.le_trans Zs2 Kc14.1
  have K14 : Keep h0 T14.heap [a4_0] := K2.trans Kc14 (allS (Or.inr sz2) all0)
  have F15 := F4.keep Kc14
  have F16 := F5.keep Kc14 (ninS ne3 nin0)
  have F17 := F6.keep Kc14 (ninS ne3 nin0)
  have F18 := F7.keep Kc14 (ninS ne3 nin0)
  have F19 := F8.keep Kc14 (ninS ne3 nin0)
  have F20 := F9.keep Kc14 (ninS ne3 nin0)
  have F21 := own_stakeep F10 Kc14 (allS (own_nsE A2) all0)
  have N14 := Fr.app N0 N14q
  obtain ⟨T22, h22, X22, e22, W22, st22⟩ := putF X14 hx hZ hown (host := "") (Or.inl (wd hw 45 rfl)) Via.refl rfl F16 F15 (Or.inr ⟨(wd hw 46 rfl), rfl, hnm⟩) (wd hw 2 rfl) (ty := (.object "java/util/List")) (by decide) rfl rfl (g := (mkF m 12 #[.val (.ref a4_0), .val .null, .val (.ref a4_2)] [(.ref b2), (.ref a4_0)])) rfl rfl (hb hby d4_12)
  have Fw22 : Fld Z h22 a4_0 "com/example/batchrake/batchrake/DeleteReport" "failures" "Ljava/util/List;" (.ref b2) := F16.same W22
  have F23 := F15.wr W22
  have F25 := F17.other W22 (Or.inr (slot_ne (Or.inl (wd hw 98 rfl)) (Or.inr (wd hw 46 rfl)) (by decide) (t := .int) (t' := (.object "java/util/List")) (by decide) (by decide)))
  have F26 := F18.other W22 (Or.inr (slot_ne (Or.inl (wd hw 155 rfl)) (Or.inr (wd hw 46 rfl)) (by decide) (t := .int) (t' := (.object "java/util/List")) (by decide) (by decide)))
  have F27 := F19.other W22 (Or.inr (slot_ne (Or.inr (wd hw 48 rfl)) (Or.inr (wd hw 46 rfl)) (by decide) (t := (.object "java/lang/String")) (t' := (.object "java/util/List")) (by decide) (by decide)))
  have F28 := F20.other W22 (Or.inr (slot_ne (Or.inr (wd hw 50 rfl)) (Or.inr (wd hw 46 rfl)) (by decide) (t := (.object "java/lang/String")) (t' := (.object "java/util/List")) (by decide) (by decide)))
  have F29 := F21.wr W22
  have F30 := G14_0.wr W22
  have F31 := G14_1.other W22 (Or.inl (Ne.symm ne3))
  have F32 := G14_2.other W22 (Or.inl (Ne.symm ne3))
  have F33 := G14_3.other W22 (Or.inl (Ne.symm ne3))
  have N22 := Fr.snoc X22 N14 g_a4_0
  have K22 : Keep h0 h22 [a4_0] := K14.wr W22 (Or.inl (List.mem_of_getElem? (i := 0) rfl))
  have Zs22 : n0 ≤ h22.size := by rw [W22.size]; exact Zs14
  obtain ⟨T34, h34, X34, e34, W34, st34⟩ := putF X22 hx hZ hown (host := "") (Or.inl (wd hw 47 rfl)) Via.refl e22 F27 F23 (Or.inr ⟨(wd hw 48 rfl), rfl, hnm⟩) (wd hw 2 rfl) (ty := (.object "java/lang/String")) (by decide) rfl rfl (g := (mkF m 17 #[.val (.ref a4_0), .val .null, .val (.ref a4_2)] [.null, (.ref a4_0)])) rfl rfl (hb hby d4_17)
  have Fw34 : Fld Z h34 a4_0 "com/example/batchrake/batchrake/DeleteReport" "refusalStatus" "Ljava/lang/String;" .null := F27.same W34
  have F35 := F23.wr W34
  have F36 := F25.other W34 (Or.inr (slot_ne (Or.inl (wd hw 98 rfl)) (Or.inr (wd hw 48 rfl)) (by decide) (t := .int) (t' := (.object "java/lang/String")) (by decide) (by decide)))
  have F37 := F26.other W34 (Or.inr (slot_ne (Or.inl (wd hw 155 rfl)) (Or.inr (wd hw 48 rfl)) (by decide) (t := .int) (t' := (.object "java/lang/String")) (by decide) (by decide)))
  have F39 := F28.other W34 (Or.inr (slot_ne (Or.inr (wd hw 50 rfl)) (Or.inr (wd hw 48 rfl)) (by decide) (t := (.object "java/lang/String")) (t' := (.object "java/lang/String")) (by decide) (by decide)))
  have F40 := F29.wr W34
  have F41 := F30.wr W34
  have F42 := F31.other W34 (Or.inl (Ne.symm ne3))
  have F43 := F32.other W34 (Or.inl (Ne.symm ne3))
  have F44 := F33.other W34 (Or.inl (Ne.symm ne3))
  have F45 := Fw22.other W34 (Or.inr (slot_ne (Or.inr (wd hw 46 rfl)) (Or.inr (wd hw 48 rfl)) (by decide) (t := (.object "java/util/List")) (t' := (.object "java/lang/String")) (by decide) (by decide)))
  have N34 := Fr.snoc X34 N22 g_a4_0
  have K34 : Keep h0 h34 [a4_0] := K22.wr W34 (Or.inl (List.mem_of_getElem? (i := 0) rfl))
  have Zs34 : n0 ≤ h34.size := by rw [W34.size]; exact Zs22
  obtain ⟨T46, h46, X46, e46, W46, st46⟩ := putF X34 hx hZ hown (host := "") (Or.inl (wd hw 49 rfl)) Via.refl e34 F39 F35 (Or.inr ⟨(wd hw 50 rfl), rfl, hnm⟩) (wd hw 2 rfl) (ty := (.object "java/lang/String")) (by decide) rfl rfl (g := (mkF m 22 #[.val (.ref a4_0), .val .null, .val (.ref a4_2)] [(.ref a4_2), (.ref a4_0)])) rfl rfl (hb hby d4_22)
  have Fw46 : Fld Z h46 a4_0 "com/example/batchrake/batchrake/DeleteReport" "refusalReason" "Ljava/lang/String;" (.ref a4_2) := F39.same W46
  have F47 := F35.wr W46
  have F48 := F36.other W46 (Or.inr (slot_ne (Or.inl (wd hw 98 rfl)) (Or.inr (wd hw 50 rfl)) (by decide) (t := .int) (t' := (.object "java/lang/String")) (by decide) (by decide)))
  have F49 := F37.other W46 (Or.inr (slot_ne (Or.inl (wd hw 155 rfl)) (Or.inr (wd hw 50 rfl)) (by decide) (t := .int) (t' := (.object "java/lang/String")) (by decide) (by decide)))
  have F51 := F40.wr W46
  have F52 := F41.wr W46
  have F53 := F42.other W46 (Or.inl (Ne.symm ne3))
  have F54 := F43.other W46 (Or.inl (Ne.symm ne3))
  have F55 := F44.other W46 (Or.inl (Ne.symm ne3))
  have F56 := F45.other W46 (Or.inr (slot_ne (Or.inr (wd hw 46 rfl)) (Or.inr (wd hw 50 rfl)) (by decide) (t := (.object "java/util/List")) (t' := (.object "java/lang/String")) (by decide) (by decide)))
  have F57 := Fw34.other W46 (Or.inr (slot_ne (Or.inr (wd hw 48 rfl)) (Or.inr (wd hw 50 rfl)) (by decide) (t := (.object "java/lang/String")) (t' := (.object "java/lang/String")) (by decide) (by decide)))
  have N46 := Fr.snoc X46 N34 g_a4_0
  have K46 : Keep h0 h46 [a4_0] := K34.wr W46 (Or.inl (List.mem_of_getElem? (i := 0) rfl))
  have Zs46 : n0 ≤ h46.size := by rw [W46.size]; exact Zs34
  have k58 : ∀ t, Steps p.tables e below (T46.setTop (mkF m 25 #[.val (.ref a4_0), .val .null, .val (.ref a4_2)] [])) t → Steps p.tables e below (s₁.setTop (entryFrame m #[(.ref a4_0), .null, (.ref a4_2)] 3)) t := by
    intro t k
    refine pre0 t ?_
    refine XS.aloadN X0.here hx rfl (hb hby d4_0) rfl rfl ?_
    refine st1 _ ?_
    refine XS.aloadN X1.here hx rfl (hb hby d4_4) rfl rfl ?_
    refine st2 _ ?_
    refine XS.dup X2.here hx rfl (hb hby d4_8) rfl rfl ?_
    refine st14.trans ?_
    refine st22 _ ?_
    refine XS.aloadN X22.here hx rfl (hb hby d4_15) rfl rfl ?_
    refine XS.aloadN X22.here hx rfl (hb hby d4_16) rfl rfl ?_
    refine st34 _ ?_
    refine XS.aloadN X34.here hx rfl (hb hby d4_20) rfl rfl ?_
    refine XS.aloadN X34.here hx rfl (hb hby d4_21) rfl rfl ?_
    refine st46 _ ?_
    exact k
  obtain ⟨fs, hr, hrun, hended, hW, hsame⟩ := X46.leave (v := none) (fun _ => rfl)
  refine ⟨_, _, k58 _ ?_, hrun, hended, _, _, rfl, ?_, ⟨_, rfl⟩, hW, hsame.mono (by decide) (by decide)⟩
  · exact X46.returnOut hx Bd.returns (hb hby d4_25) hr
  · show Q4 Z a4_0 a4_2 u_DEFAULTCAPACITY_EMPTY_ELEMENTDATA h0 n0 _ T46.heap _
    rw [e46]
    exact ⟨b2, rfl, N46, K46, gg2, sz2, F47, F56, F48, F49, F52, F53, F54, F55⟩
theorem pd_1 : parseMethodDescriptor "(Ljava/lang/String;Ljava/lang/String;)V" = some ⟨[(.object "java/lang/String"), (.object "java/lang/String")], none⟩ := by decide +kernel
theorem d5_0 : decode prog_1_method_1_code 0 = .ok (.aload_n 0, 1) := by decide +kernel
theorem d5_1 : decode prog_1_method_1_code 1 = .ok (.aconst_null, 1) := by decide +kernel
theorem d5_2 : decode prog_1_method_1_code 2 = .ok (.ldc 1, 2) := by decide +kernel
theorem d5_4 : decode prog_1_method_1_code 4 = .ok (.invokespecial 3, 3) := by decide +kernel
theorem d5_7 : decode prog_1_method_1_code 7 = .ok (.return_, 1) := by decide +kernel
theorem ef_5 (m : MethodId) (a5_0 : Addr) : entryFrame m #[(.ref a5_0)] 1 = mkF m 0 #[.val (.ref a5_0)] [] := by first | (simp [entryFrame, mkF, argsToLocals, Value.category]; done) | rfl
def Q5 (Z : State) (a5_0 : Addr) (u_DEFAULTCAPACITY_EMPTY_ELEMENTDATA : Addr) (h0 : Heap) (n0 : Nat) (v : Option Value) (h : Heap) (L : List Loc) : Prop := ∃ lx : Addr, v = none ∧ Fr n0 L ∧ Keep h0 h [a5_0] ∧ n0 ≤ lx ∧ h0.size ≤ lx ∧ Exa Z h a5_0 "com/example/batchrake/batchrake/DeleteReport" ∧ Fld Z h a5_0 "com/example/batchrake/batchrake/DeleteReport" "failures" "Ljava/util/List;" (.ref lx) ∧ Fld Z h a5_0 "com/example/batchrake/batchrake/DeleteReport" "deleted" "I" (.int (0 : Int32)) ∧ Fld Z h a5_0 "com/example/batchrake/batchrake/DeleteReport" "notFound" "I" (.int (0 : Int32)) ∧ Exa Z h lx "java/util/ArrayList" ∧ Fld Z h lx "java/util/AbstractList" "modCount" "I" (.int (0 : Int32)) ∧ Fld Z h lx "java/util/ArrayList" "size" "I" (.int (0 : Int32)) ∧ Fld Z h lx "java/util/ArrayList" "elementData" "[Ljava/lang/Object;" (.ref u_DEFAULTCAPACITY_EMPTY_ELEMENTDATA)
set_option maxRecDepth 65536 in
set_option maxHeartbeats 40000000 in
theorem rm5 (l : Launch) (Z : State) (a0 : Array Value) (hw : ∀ d ∈ tables_1, d.before a0 Z = true) (ws : List Jvm.Cond) (hEL : EW Z a0 consts_1) (wS : ∀ a ∈ Bundle.stringAtoms, a.before a0 Z = true) (a5_0 : Addr) (u_DEFAULTCAPACITY_EMPTY_ELEMENTDATA : Addr) (h0 : Heap) (n0 : Nat) (Z0 : n0 ≤ h0.size) (Er : Exa Z h0 a5_0 "com/example/batchrake/batchrake/DeleteReport") (Ff : Fld Z h0 a5_0 "com/example/batchrake/batchrake/DeleteReport" "failures" "Ljava/util/List;" .null) (Fd : Fld Z h0 a5_0 "com/example/batchrake/batchrake/DeleteReport" "deleted" "I" (.int (0 : Int32))) (Fn : Fld Z h0 a5_0 "com/example/batchrake/batchrake/DeleteReport" "notFound" "I" (.int (0 : Int32))) (Fs1 : Fld Z h0 a5_0 "com/example/batchrake/batchrake/DeleteReport" "refusalStatus" "Ljava/lang/String;" .null) (Fs2 : Fld Z h0 a5_0 "com/example/batchrake/batchrake/DeleteReport" "refusalReason" "Ljava/lang/String;" .null) (S_DEFAULTCAPACITY_EMPTY_ELEMENTDATA : Sta Z h0 "java/util/ArrayList" "DEFAULTCAPACITY_EMPTY_ELEMENTDATA" "[Ljava/lang/Object;" (.ref u_DEFAULTCAPACITY_EMPTY_ELEMENTDATA)) (g_a5_0 : n0 ≤ a5_0) :
    MetFree l (⟨"com/example/batchrake/batchrake/DeleteReport", "<init>", "()V"⟩ : MethodName) (head1 (Jvm.Cond.code (⟨"com/example/batchrake/batchrake/DeleteReport", "<init>", "()V"⟩ : MethodName) prog_1_method_1_code 1 none :: ws) ({ frames := 5, cells := 3, slots := 7, locals := 64 } : Room)) (fun a U => a = #[(.ref a5_0)] ∧ Z.Warmed39 U.vm ∧ U.heap = h0 ∧ CHv Z consts_1 U.vm h0) (fun _ _ _ _ _ => True) (fun _ U o U' => ∃ v L, o = .returned v ∧ Q5 Z a5_0 u_DEFAULTCAPACITY_EMPTY_ELEMENTDATA h0 n0 v U'.heap L ∧ CHr Z consts_1 U.vm U.heap U'.vm U'.heap ∧ ReturnedEndW U o U' L ({ frames := 5, cells := 3, slots := 7, locals := 64 } : Room).cells ({ frames := 5, cells := 3, slots := 7, locals := 64 } : Room).slots) := by
  refine MetFree.of_bodySF (plainFor_of_name pn_3) hisR ?_
  intro p e s m args below meth c s₁ Bd hml0 hP hK
  obtain ⟨rfl, hZ, hh, hCH⟩ := hP
  have hx := Bd.exec
  have hby := Bd.bytes
  have hml : c.maxLocals = 1 := hml0
  have hown : s.vm.findClass "com/example/batchrake/batchrake/DeleteReport" = some m.cls := findClass_of_methodNamed Bd.named
  have hnm := (name_of_methodNamed Bd.named Bd.method).1
  have X0 : Stand p l e ({ frames := 5, cells := 3, slots := 7, locals := 64 } : Room) (s.setVm s.vm) m #[(.ref a5_0)] below meth c s₁ [] 0 0 := Stand.of_body Bd
  have e0 : s₁.heap = h0 := by rw [← hh, Bd.state]; rfl
  have N0 := Fr.nil n0
  have hS : s.Since s.vm h0.size := (State.WarmedH.refl s).since _
  have hk : h0.size ≤ h0.size := Nat.le_refl _
  have hCR : CHr Z consts_1 s.vm h0 s.vm h0 := CHr.refl hCH
  have pre0 : ∀ t, Steps p.tables e below (s₁.setTop (mkF m 0 #[.val (.ref a5_0)] [])) t → Steps p.tables e below (s₁.setTop (entryFrame m #[(.ref a5_0)] 1)) t := fun t k => castTop (ef_5 m a5_0) k
  obtain ⟨b1, T1, h1, k1, X1, e1, E1, hS, hk, hZ, hown, hC1, hL1, st1⟩ := ldcOH X0 hx hZ hown (wd hw 7 rfl) wS e0 hS hk hEL hCR.1 (g := (mkF m 2 #[.val (.ref a5_0)] [.null, (.ref a5_0)])) rfl (hb hby d5_2) (n := 0) (by decide) (by decide) (by decide) (by decide)
  have hCR := hCR.trans hC1
  have Zs1 : n0 ≤ h1.size := Nat.le_trans Z0 E1.1
  have K1 : Keep h0 h1 [a5_0] := (Keep.refl h0 [a5_0]).ext E1
  have F2 := Er.ext E1
  have F3 := Ff.ext E1
  have F4 := Fd.ext E1
  have F5 := Fn.ext E1
  have F6 := Fs1.ext E1
  have F7 := Fs2.ext E1
  have F8 := S_DEFAULTCAPACITY_EMPTY_ELEMENTDATA.ext E1
  obtain ⟨_, _, ⟨T9, L9, k9, n9⟩, -, X9, ⟨Lc9, hQ9, l9, y9, z9⟩, st9⟩ := X1.specialBack hx (y := (⟨"com/example/batchrake/batchrake/DeleteReport", "<init>", "(Ljava/lang/String;Ljava/lang/String;)V"⟩ : MethodName)) rfl hown (mvT hZ (wd hw 15 rfl)) (mvT hZ (wd hw 16 rfl)) (mvT hZ (wd hw 17 rfl)) (by decide) (backOf (W := 0) (rm4 l Z a0 hw [] a5_0 b1 u_DEFAULTCAPACITY_EMPTY_ELEMENTDATA h1 n0 Zs1 F2 F3 F4 F5 F6 F7 F8 g_a5_0) hZ (wd hw 17 rfl) (wd hw 3 rfl) (by decide) (by decide)) (g := (mkF m 4 #[.val (.ref a5_0)] [(.ref b1), .null, (.ref a5_0)])) rfl (by rw [hml]; rfl) (Steps.refl _) (a := a5_0) (argsL := [.null, (.ref b1)]) (rest := []) (lenOf pd_1 rfl) rfl (by show 2 * 0 + _ ≤ _; exact Nat.le_of_eq rfl) (hb hby d5_4) (fun _ _ => ⟨rfl, e1, (by decide : 2 + 1 ≤ _), (by decide : 4 + 3 ≤ _)⟩)
  dsimp only [Pt.U, Pt.locs, Pt.cells, Pt.slots] at X9 l9 y9 z9 st9 hQ9
  rw [l9, y9, z9] at X9
  obtain ⟨lx_9, rfl, N9q, Kc9, gglx_9, szlx_9, G9_0, G9_1, G9_2, G9_3, G9_4, G9_5, G9_6, G9_7⟩ := hQ9
  have ne10 : a5_0 ≠ lx_9 := Nat.ne_of_lt (Nat.lt_of_lt_of_le F2.lt szlx_9)
  have szzlx_9 : h0.size ≤ lx_9 := Nat.le_trans K1.1 szlx_9
  have Zs9 : n0 ≤ T9.heap.size := Nat.le_trans Zs1 Kc9.1
  have K9 : Keep h0 T9.heap [a5_0] := K1.trans Kc9 (allS (Or.inl (List.mem_of_getElem? (i := 0) rfl)) all0)
  have hCR := hCR.trans (CHr.keep Kc9 (sfS own_safe0 sf0) hCR.1)
  have hk := Nat.le_trans hk Kc9.1
  have F13 := own_stakeep F8 Kc9 (allS (own_nsE F2) all0)
  have N9 := Fr.app N0 N9q
  have k14 : ∀ t, Steps p.tables e below (T9.setTop (mkF m 7 #[.val (.ref a5_0)] [])) t → Steps p.tables e below (s₁.setTop (entryFrame m #[(.ref a5_0)] 1)) t := by
    intro t k
    refine pre0 t ?_
    refine XS.aloadN X0.here hx rfl (hb hby d5_0) rfl rfl ?_
    refine XS.aconstNull X0.here hx rfl (hb hby d5_1) ?_
    refine st1 _ ?_
    refine st9.trans ?_
    exact k
  obtain ⟨fs, hr, hrun, hended, hE1, hE2, hE3, hE4⟩ := X9.leaveW hS hk (v := none) (fun _ => rfl)
  have hCE := hCR.trans (CHv.at X9 hZ hEL hCR.1)
  refine ⟨_, _, k14 _ ?_, hrun, hended, _, _, rfl, ?_, (by show CHr Z consts_1 s.vm s.heap T9.vm T9.heap; rw [hh]; exact hCE), ⟨_, rfl⟩, hE2, hE3, hE4.mono (by decide) (by decide)⟩
  · exact X9.returnOut hx Bd.returns (hb hby d5_7) hr
  · show Q5 Z a5_0 u_DEFAULTCAPACITY_EMPTY_ELEMENTDATA h0 n0 _ T9.heap _
    exact ⟨lx_9, rfl, N9, K9, gglx_9, szzlx_9, G9_0, G9_1, G9_2, G9_3, G9_4, G9_5, G9_6, G9_7⟩
theorem pn_4 : plainName "java/lang/StringLatin1" = true := by first | (simp [plainName, overriddenIn]; done) | decide +kernel
theorem d6_0 : decode jdk_43_method_3_code 0 = .ok (.iload_n 0, 1) := by decide +kernel
theorem d6_1 : decode jdk_43_method_3_code 1 = .ok (.sipush 255, 3) := by decide +kernel
theorem d6_4 : decode jdk_43_method_3_code 4 = .ok (.if_icmp .gt 7, 3) := by decide +kernel
theorem d6_7 : decode jdk_43_method_3_code 7 = .ok (.iconst 1, 1) := by decide +kernel
theorem d6_8 : decode jdk_43_method_3_code 8 = .ok (.goto 4, 3) := by decide +kernel
theorem d6_11 : decode jdk_43_method_3_code 11 = .ok (.iconst 0, 1) := by decide +kernel
theorem d6_12 : decode jdk_43_method_3_code 12 = .ok (.ireturn, 1) := by decide +kernel
theorem ef_6 (m : MethodId) (p6_0 : Int32) : entryFrame m #[(.int p6_0)] 1 = mkF m 0 #[.val (.int p6_0)] [] := by first | (simp [entryFrame, mkF, argsToLocals, Value.category]; done) | rfl
def own_can (p6_0 : Int32) : Int32 := (if (255 : Int32) < p6_0 then (0 : Int32) else (1 : Int32))
def Q6 (Z : State) (p6_0 : Int32) (h0 : Heap) (n0 : Nat) (v : Option Value) (h : Heap) (L : List Loc) : Prop := v = some (.int (own_can p6_0)) ∧ Fr n0 L ∧ h = h0
set_option maxRecDepth 65536 in
set_option maxHeartbeats 40000000 in
theorem rm6 (l : Launch) (Z : State) (a0 : Array Value) (hw : ∀ d ∈ tables_1, d.before a0 Z = true) (ws : List Jvm.Cond) (p6_0 : Int32) (h0 : Heap) (n0 : Nat) (Z0 : n0 ≤ h0.size) :
    MetFree l (⟨"java/lang/StringLatin1", "canEncode", "(C)Z"⟩ : MethodName) (head1 (Jvm.Cond.code (⟨"java/lang/StringLatin1", "canEncode", "(C)Z"⟩ : MethodName) jdk_43_method_3_code 1 (some .boolean) :: ws) ({ frames := 0, cells := 0, slots := 0, locals := 0 } : Room)) (fun a U => a = #[(.int p6_0)] ∧ Z.Warmed39 U.vm ∧ U.heap = h0) (fun _ _ _ _ _ => True) (fun _ U o U' => ∃ v L, o = .returned v ∧ Q6 Z p6_0 h0 n0 v U'.heap L ∧ FrameEnd U o U' L ({ frames := 0, cells := 0, slots := 0, locals := 0 } : Room).cells ({ frames := 0, cells := 0, slots := 0, locals := 0 } : Room).slots) := by
  refine MetFree.of_bodySF (plainFor_of_name pn_4) hisR ?_
  intro p e s m args below meth c s₁ Bd hml0 hP hK
  obtain ⟨rfl, hZ, hh⟩ := hP
  have hx := Bd.exec
  have hby := Bd.bytes
  have hml : c.maxLocals = 1 := hml0
  have hown : s.vm.findClass "java/lang/StringLatin1" = some m.cls := findClass_of_methodNamed Bd.named
  have hnm := (name_of_methodNamed Bd.named Bd.method).1
  have X0 : Stand p l e ({ frames := 0, cells := 0, slots := 0, locals := 0 } : Room) s m #[(.int p6_0)] below meth c s₁ [] 0 0 := Stand.of_body Bd
  have e0 : s₁.heap = h0 := by rw [← hh, Bd.state]; rfl
  have N0 := Fr.nil n0
  have pre0 : ∀ t, Steps p.tables e below (s₁.setTop (mkF m 0 #[.val (.int p6_0)] [])) t → Steps p.tables e below (s₁.setTop (entryFrame m #[(.int p6_0)] 1)) t := fun t k => castTop (ef_6 m p6_0) k
  have k1 : ∀ t, Steps p.tables e below (s₁.setTop (mkF m 4 #[.val (.int p6_0)] [(.int (255 : Int32)), (.int p6_0)])) t → Steps p.tables e below (s₁.setTop (entryFrame m #[(.int p6_0)] 1)) t := by
    intro t k
    refine pre0 t ?_
    refine XS.iloadN X0.here hx rfl (hb hby d6_0) rfl ?_
    refine XS.sipush X0.here hx rfl (hb hby d6_1) ?_
    exact k
  by_cases hc4_2 : (255 : Int32) < p6_0
  · skip
    have k3 : ∀ t, Steps p.tables e below (s₁.setTop (mkF m 12 #[.val (.int p6_0)] [(.int (0 : Int32))])) t → Steps p.tables e below (s₁.setTop (entryFrame m #[(.int p6_0)] 1)) t := by
      intro t k
      refine k1 t ?_
      refine XS.icmpYes X0.here hx rfl (pc0 := 4) (pc' := 11) rfl (hb hby d6_4) rfl (tlt hc4_2).2.2.1 (by decide) (by decide) ?_
      refine XS.iconst X0.here hx rfl (hb hby d6_11) ?_
      exact k
    obtain ⟨fs, hr, hrun, hended, hW, hsame⟩ := X0.leave (v := some (.int (0 : Int32))) (fun h => by rw [Bd.returns] at h; cases h)
    refine ⟨_, _, k3 _ ?_, hrun, hended, _, _, rfl, ?_, ⟨_, rfl⟩, hW, hsame.mono (by decide) (by decide)⟩
    · exact retN X0 hx (t := .boolean) Bd.returns (by simp) (hb hby d6_12) hr
    · show Q6 Z p6_0 h0 n0 _ s₁.heap _
      rw [e0]
      exact ⟨congrArg (fun z => some (Value.int z)) (show ((0 : Int32) : Int32) = own_can p6_0 from by unfold own_can; rw [if_pos hc4_2]), N0, rfl⟩
  · skip
    have k4 : ∀ t, Steps p.tables e below (s₁.setTop (mkF m 12 #[.val (.int p6_0)] [(.int (1 : Int32))])) t → Steps p.tables e below (s₁.setTop (entryFrame m #[(.int p6_0)] 1)) t := by
      intro t k
      refine k1 t ?_
      refine XS.icmpNo X0.here hx rfl (hb hby d6_4) rfl (flt hc4_2).2.2.1 ?_
      refine XS.iconst X0.here hx rfl (hb hby d6_7) ?_
      refine XS.goto X0.here hx rfl (pc0 := 8) (pc' := 12) rfl (hb hby d6_8) (by decide) (by decide) ?_
      exact k
    obtain ⟨fs, hr, hrun, hended, hW, hsame⟩ := X0.leave (v := some (.int (1 : Int32))) (fun h => by rw [Bd.returns] at h; cases h)
    refine ⟨_, _, k4 _ ?_, hrun, hended, _, _, rfl, ?_, ⟨_, rfl⟩, hW, hsame.mono (by decide) (by decide)⟩
    · exact retN X0 hx (t := .boolean) Bd.returns (by simp) (hb hby d6_12) hr
    · show Q6 Z p6_0 h0 n0 _ s₁.heap _
      rw [e0]
      exact ⟨congrArg (fun z => some (Value.int z)) (show ((1 : Int32) : Int32) = own_can p6_0 from by unfold own_can; rw [if_neg hc4_2]), N0, rfl⟩
theorem d7_0 : decode jdk_43_method_46_code 0 = .ok (.iconst 1, 1) := by decide +kernel
theorem d7_1 : decode jdk_43_method_46_code 1 = .ok (.newarray .byte, 2) := by decide +kernel
theorem d7_3 : decode jdk_43_method_46_code 3 = .ok (.dup, 1) := by decide +kernel
theorem d7_4 : decode jdk_43_method_46_code 4 = .ok (.iconst 0, 1) := by decide +kernel
theorem d7_5 : decode jdk_43_method_46_code 5 = .ok (.iload_n 0, 1) := by decide +kernel
theorem d7_6 : decode jdk_43_method_46_code 6 = .ok (.i2b, 1) := by decide +kernel
theorem d7_7 : decode jdk_43_method_46_code 7 = .ok (.bastore, 1) := by decide +kernel
theorem d7_8 : decode jdk_43_method_46_code 8 = .ok (.areturn, 1) := by decide +kernel
theorem ef_7 (m : MethodId) (p7_0 : Int32) : entryFrame m #[(.int p7_0)] 1 = mkF m 0 #[.val (.int p7_0)] [] := by first | (simp [entryFrame, mkF, argsToLocals, Value.category]; done) | rfl
def Q7 (Z : State) (p7_0 : Int32) (h0 : Heap) (n0 : Nat) (v : Option Value) (h : Heap) (L : List Loc) : Prop := ∃ bx : Addr, v = some (.ref bx) ∧ Fr n0 L ∧ Keep h0 h [] ∧ n0 ≤ bx ∧ h0.size ≤ bx
set_option maxRecDepth 65536 in
set_option maxHeartbeats 40000000 in
theorem rm7 (l : Launch) (Z : State) (a0 : Array Value) (hw : ∀ d ∈ tables_1, d.before a0 Z = true) (ws : List Jvm.Cond) (p7_0 : Int32) (h0 : Heap) (n0 : Nat) (Z0 : n0 ≤ h0.size) :
    MetFree l (⟨"java/lang/StringLatin1", "toBytes", "(C)[B"⟩ : MethodName) (head1 (Jvm.Cond.code (⟨"java/lang/StringLatin1", "toBytes", "(C)[B"⟩ : MethodName) jdk_43_method_46_code 1 (some (.array .byte)) :: ws) ({ frames := 0, cells := 1, slots := 1, locals := 0 } : Room)) (fun a U => a = #[(.int p7_0)] ∧ Z.Warmed39 U.vm ∧ U.heap = h0) (fun _ _ _ _ _ => True) (fun _ U o U' => ∃ v L, o = .returned v ∧ Q7 Z p7_0 h0 n0 v U'.heap L ∧ FrameEnd U o U' L ({ frames := 0, cells := 1, slots := 1, locals := 0 } : Room).cells ({ frames := 0, cells := 1, slots := 1, locals := 0 } : Room).slots) := by
  refine MetFree.of_bodySF (plainFor_of_name pn_4) hisR ?_
  intro p e s m args below meth c s₁ Bd hml0 hP hK
  obtain ⟨rfl, hZ, hh⟩ := hP
  have hx := Bd.exec
  have hby := Bd.bytes
  have hml : c.maxLocals = 1 := hml0
  have hown : s.vm.findClass "java/lang/StringLatin1" = some m.cls := findClass_of_methodNamed Bd.named
  have hnm := (name_of_methodNamed Bd.named Bd.method).1
  have X0 : Stand p l e ({ frames := 0, cells := 1, slots := 1, locals := 0 } : Room) s m #[(.int p7_0)] below meth c s₁ [] 0 0 := Stand.of_body Bd
  have e0 : s₁.heap = h0 := by rw [← hh, Bd.state]; rfl
  have N0 := Fr.nil n0
  have pre0 : ∀ t, Steps p.tables e below (s₁.setTop (mkF m 0 #[.val (.int p7_0)] [])) t → Steps p.tables e below (s₁.setTop (entryFrame m #[(.int p7_0)] 1)) t := fun t k => castTop (ef_7 m p7_0) k
  obtain ⟨b1, g1⟩ : ∃ z, z = h0.size := ⟨_, rfl⟩
  obtain ⟨T1, h1, k1, X1, e1, E1, A1, st1⟩ := newP X0 hx hZ (wd hw 10 rfl) e0 (g := (mkF m 1 #[.val (.int p7_0)] [(.int (1 : Int32))])) rfl (hb hby d7_1) rfl (by decide) (cap := 1) (by decide) (by decide) (by decide) (by decide)
  rw [← g1] at A1 st1
  have gg1 : n0 ≤ b1 := Nat.le_trans Z0 (Nat.le_of_eq g1.symm)
  have sz1 : h0.size ≤ b1 := Nat.le_trans (Keep.refl h0 []).1 (Nat.le_of_eq g1.symm)
  have Zs1 : n0 ≤ h1.size := Nat.le_trans Z0 E1.1
  have K1 : Keep h0 h1 [] := (Keep.refl h0 []).ext E1
  have V1 : Arv Z h1 b1 k1 .byte (1 : Int32) [(.int (0 : Int32))] (.int (0 : Int32)) := (Arv.new A1 (by decide)).pad (pad_rep [] (.int (0 : Int32)) 1)
  obtain ⟨cl2, Ar2, qc2, Sz2, Nn2, Hh2, Gg2⟩ := (id V1)
  have hin2 : ¬ ((0 : Int32) < 0 ∨ cl2.slots.size ≤ ((0 : Int32)).toNatClampNeg) := inb_of Sz2 ⟨by decide, by decide⟩
  obtain ⟨T2, h2, X2, e2, W2, st2⟩ := stB X1 hx hZ e1 Ar2 (j := (0 : Int32)) hin2 (g := (mkF m 7 #[.val (.int p7_0)] [(.int p7_0.toInt8.toInt32), (.int (0 : Int32)), (.ref b1), (.ref b1)])) rfl rfl (hb hby d7_7)
  have V2 : Arv Z h2 b1 k1 .byte (1 : Int32) [(.int (nar .byte p7_0.toInt8.toInt32))] (.int (0 : Int32)) := Arv.set Ar2 qc2 Sz2 Nn2 Hh2 Gg2 (fits_nar_byte _) W2 0 rfl (Nat.le_of_ble_eq_true rfl)
  have N2 := Fr.snoc X2 N0 gg1
  have K2 : Keep h0 h2 [] := K1.wr W2 (Or.inr sz1)
  have Zs2 : n0 ≤ h2.size := by rw [W2.size]; exact Zs1
  have k4 : ∀ t, Steps p.tables e below (T2.setTop (mkF m 8 #[.val (.int p7_0)] [(.ref b1)])) t → Steps p.tables e below (s₁.setTop (entryFrame m #[(.int p7_0)] 1)) t := by
    intro t k
    refine pre0 t ?_
    refine XS.iconst X0.here hx rfl (hb hby d7_0) ?_
    refine st1 _ ?_
    refine XS.dup X1.here hx rfl (hb hby d7_3) rfl rfl ?_
    refine XS.iconst X1.here hx rfl (hb hby d7_4) ?_
    refine XS.iloadN X1.here hx rfl (hb hby d7_5) rfl ?_
    refine XS.i2b X1.here hx rfl (hb hby d7_6) rfl ?_
    refine st2 _ ?_
    exact k
  obtain ⟨fs, hr, hrun, hended, hW, hsame⟩ := X2.leave (v := some (.ref b1)) (fun h => by rw [Bd.returns] at h; cases h)
  refine ⟨_, _, k4 _ ?_, hrun, hended, _, _, rfl, ?_, ⟨_, rfl⟩, hW, hsame.mono (by decide) (by decide)⟩
  · exact retOut X2 hx Bd.returns rfl (Or.inr (Or.inr (Or.inr (Or.inr ⟨rfl, rfl, rfl⟩)))) (hb hby d7_8) hr
  · show Q7 Z p7_0 h0 n0 _ T2.heap _
    rw [e2]
    exact ⟨b1, rfl, N2, K2, gg1, sz1⟩
theorem pn_5 : plainName "java/lang/String" = true := by first | (simp [plainName, overriddenIn]; done) | decide +kernel
theorem d8_0 : decode jdk_42_method_151_code 0 = .ok (.aload_n 0, 1) := by decide +kernel
theorem d8_1 : decode jdk_42_method_151_code 1 = .ok (.invokespecial 1, 3) := by decide +kernel
theorem d8_4 : decode jdk_42_method_151_code 4 = .ok (.aload_n 0, 1) := by decide +kernel
theorem d8_5 : decode jdk_42_method_151_code 5 = .ok (.aload_n 1, 1) := by decide +kernel
theorem d8_6 : decode jdk_42_method_151_code 6 = .ok (.putfield 9, 3) := by decide +kernel
theorem d8_9 : decode jdk_42_method_151_code 9 = .ok (.aload_n 0, 1) := by decide +kernel
theorem d8_10 : decode jdk_42_method_151_code 10 = .ok (.iload_n 2, 1) := by decide +kernel
theorem d8_11 : decode jdk_42_method_151_code 11 = .ok (.putfield 15, 3) := by decide +kernel
theorem d8_14 : decode jdk_42_method_151_code 14 = .ok (.return_, 1) := by decide +kernel
theorem ef_8 (m : MethodId) (a8_0 : Addr) (a8_1 : Addr) : entryFrame m #[(.ref a8_0), (.ref a8_1), (.int (0 : Int32))] 3 = mkF m 0 #[.val (.ref a8_0), .val (.ref a8_1), .val (.int (0 : Int32))] [] := by first | (simp [entryFrame, mkF, argsToLocals, Value.category]; done) | rfl
def Q8 (Z : State) (a8_0 : Addr) (a8_1 : Addr) (h0 : Heap) (n0 : Nat) (v : Option Value) (h : Heap) (L : List Loc) : Prop := v = none ∧ Fr n0 L ∧ Keep h0 h [a8_0] ∧ Exa Z h a8_0 "java/lang/String"
set_option maxRecDepth 65536 in
set_option maxHeartbeats 40000000 in
theorem rm8 (l : Launch) (Z : State) (a0 : Array Value) (hw : ∀ d ∈ tables_1, d.before a0 Z = true) (ws : List Jvm.Cond) (a8_0 : Addr) (a8_1 : Addr) (h0 : Heap) (n0 : Nat) (Z0 : n0 ≤ h0.size) (Ea : Exa Z h0 a8_0 "java/lang/String") (Fv : Fld Z h0 a8_0 "java/lang/String" "value" "[B" .null) (Fc : Fld Z h0 a8_0 "java/lang/String" "coder" "B" (.int (0 : Int32))) (g_a8_0 : n0 ≤ a8_0) :
    MetFree l (⟨"java/lang/String", "<init>", "([BB)V"⟩ : MethodName) (head1 (Jvm.Cond.code (⟨"java/lang/String", "<init>", "([BB)V"⟩ : MethodName) jdk_42_method_151_code 3 none :: ws) ({ frames := 1, cells := 0, slots := 0, locals := 12 } : Room)) (fun a U => a = #[(.ref a8_0), (.ref a8_1), (.int (0 : Int32))] ∧ Z.Warmed39 U.vm ∧ U.heap = h0) (fun _ _ _ _ _ => True) (fun _ U o U' => ∃ v L, o = .returned v ∧ Q8 Z a8_0 a8_1 h0 n0 v U'.heap L ∧ FrameEnd U o U' L ({ frames := 1, cells := 0, slots := 0, locals := 12 } : Room).cells ({ frames := 1, cells := 0, slots := 0, locals := 12 } : Room).slots) := by
  refine MetFree.of_bodySF (plainFor_of_name pn_5) hisR ?_
  intro p e s m args below meth c s₁ Bd hml0 hP hK
  obtain ⟨rfl, hZ, hh⟩ := hP
  have hx := Bd.exec
  have hby := Bd.bytes
  have hml : c.maxLocals = 3 := hml0
  have hown : s.vm.findClass "java/lang/String" = some m.cls := findClass_of_methodNamed Bd.named
  have hnm := (name_of_methodNamed Bd.named Bd.method).1
  have X0 : Stand p l e ({ frames := 1, cells := 0, slots := 0, locals := 12 } : Room) s m #[(.ref a8_0), (.ref a8_1), (.int (0 : Int32))] below meth c s₁ [] 0 0 := Stand.of_body Bd
  have e0 : s₁.heap = h0 := by rw [← hh, Bd.state]; rfl
  have N0 := Fr.nil n0
  have pre0 : ∀ t, Steps p.tables e below (s₁.setTop (mkF m 0 #[.val (.ref a8_0), .val (.ref a8_1), .val (.int (0 : Int32))] [])) t → Steps p.tables e below (s₁.setTop (entryFrame m #[(.ref a8_0), (.ref a8_1), (.int (0 : Int32))] 3)) t := fun t k => castTop (ef_8 m a8_0 a8_1) k
  obtain ⟨T1, X1, e1, st1⟩ := initO X0 hx hZ hown (wd hw 71 rfl) (wd hw 19 rfl) (wd hw 20 rfl) e0 (g := (mkF m 1 #[.val (.ref a8_0), .val (.ref a8_1), .val (.int (0 : Int32))] [(.ref a8_0)])) rfl (by rw [hml]; rfl) rfl (hb hby d8_1) (by decide) (W := 0) (by show 2 * 0 + _ ≤ _; exact Nat.le_of_eq rfl) (by decide)
  obtain ⟨T2, h2, X2, e2, W2, st2⟩ := putF X1 hx hZ hown (host := "") (Or.inl (wd hw 72 rfl)) Via.refl e1 Fv Ea (Or.inr ⟨(wd hw 11 rfl), rfl, hnm⟩) (wd hw 9 rfl) (ty := (.array .byte)) (by decide) rfl rfl (g := (mkF m 6 #[.val (.ref a8_0), .val (.ref a8_1), .val (.int (0 : Int32))] [(.ref a8_1), (.ref a8_0)])) rfl rfl (hb hby d8_6)
  have Fw2 : Fld Z h2 a8_0 "java/lang/String" "value" "[B" (.ref a8_1) := Fv.same W2
  have F3 := Ea.wr W2
  have F5 := Fc.other W2 (Or.inr (slot_ne (Or.inr (wd hw 12 rfl)) (Or.inr (wd hw 11 rfl)) (by decide) (t := .byte) (t' := (.array .byte)) (by decide) (by decide)))
  have N2 := Fr.snoc X2 N0 g_a8_0
  have K2 : Keep h0 h2 [a8_0] := (Keep.refl h0 [a8_0]).wr W2 (Or.inl (List.mem_of_getElem? (i := 0) rfl))
  have Zs2 : n0 ≤ h2.size := by rw [W2.size]; exact Z0
  obtain ⟨T6, h6, X6, e6, W6, st6⟩ := putFN X2 hx hZ hown (wd hw 73 rfl) Via.refl e2 F5 F3 (Or.inr ⟨(wd hw 12 rfl), rfl, hnm⟩) (wd hw 9 rfl) (ty := .byte) (v' := .int (0 : Int32)) (by decide) rfl (by decide) (g := (mkF m 11 #[.val (.ref a8_0), .val (.ref a8_1), .val (.int (0 : Int32))] [(.int (0 : Int32)), (.ref a8_0)])) rfl rfl (hb hby d8_11)
  have Fw6 : Fld Z h6 a8_0 "java/lang/String" "coder" "B" (.int (0 : Int32)) := F5.same W6
  have F7 := F3.wr W6
  have F9 := Fw2.other W6 (Or.inr (slot_ne (Or.inr (wd hw 11 rfl)) (Or.inr (wd hw 12 rfl)) (by decide) (t := (.array .byte)) (t' := .byte) (by decide) (by decide)))
  have N6 := Fr.snoc X6 N2 g_a8_0
  have K6 : Keep h0 h6 [a8_0] := K2.wr W6 (Or.inl (List.mem_of_getElem? (i := 0) rfl))
  have Zs6 : n0 ≤ h6.size := by rw [W6.size]; exact Zs2
  have k10 : ∀ t, Steps p.tables e below (T6.setTop (mkF m 14 #[.val (.ref a8_0), .val (.ref a8_1), .val (.int (0 : Int32))] [])) t → Steps p.tables e below (s₁.setTop (entryFrame m #[(.ref a8_0), (.ref a8_1), (.int (0 : Int32))] 3)) t := by
    intro t k
    refine pre0 t ?_
    refine XS.aloadN X0.here hx rfl (hb hby d8_0) rfl rfl ?_
    refine st1 _ ?_
    refine XS.aloadN X1.here hx rfl (hb hby d8_4) rfl rfl ?_
    refine XS.aloadN X1.here hx rfl (hb hby d8_5) rfl rfl ?_
    refine st2 _ ?_
    refine XS.aloadN X2.here hx rfl (hb hby d8_9) rfl rfl ?_
    refine XS.iloadN X2.here hx rfl (hb hby d8_10) rfl ?_
    refine st6 _ ?_
    exact k
  obtain ⟨fs, hr, hrun, hended, hW, hsame⟩ := X6.leave (v := none) (fun _ => rfl)
  refine ⟨_, _, k10 _ ?_, hrun, hended, _, _, rfl, ?_, ⟨_, rfl⟩, hW, hsame.mono (by decide) (by decide)⟩
  · exact X6.returnOut hx Bd.returns (hb hby d8_14) hr
  · show Q8 Z a8_0 a8_1 h0 n0 _ T6.heap _
    rw [e6]
    exact ⟨rfl, N6, K6, F7⟩
theorem own_can1 (p : Int32) (h : ¬ (255 : Int32) < p) : ¬ own_can p = (0 : Int32) := by unfold own_can; rw [if_neg h]; decide
theorem pd_2 : parseMethodDescriptor "(C)Z" = some ⟨[.char], some .boolean⟩ := by decide +kernel
theorem pd_3 : parseMethodDescriptor "(C)[B" = some ⟨[.char], some (.array .byte)⟩ := by decide +kernel
theorem pd_4 : parseMethodDescriptor "([BB)V" = some ⟨[(.array .byte), .byte], none⟩ := by decide +kernel
theorem d9_0 : decode jdk_42_method_139_code 0 = .ok (.getstatic 38, 3) := by decide +kernel
theorem d9_3 : decode jdk_42_method_139_code 3 = .ok (.ifCond .eq 23, 3) := by decide +kernel
theorem d9_6 : decode jdk_42_method_139_code 6 = .ok (.iload_n 0, 1) := by decide +kernel
theorem d9_7 : decode jdk_42_method_139_code 7 = .ok (.invokestatic 1015, 3) := by decide +kernel
theorem d9_10 : decode jdk_42_method_139_code 10 = .ok (.ifCond .eq 16, 3) := by decide +kernel
theorem d9_13 : decode jdk_42_method_139_code 13 = .ok (.new 10, 3) := by decide +kernel
theorem d9_16 : decode jdk_42_method_139_code 16 = .ok (.dup, 1) := by decide +kernel
theorem d9_17 : decode jdk_42_method_139_code 17 = .ok (.iload_n 0, 1) := by decide +kernel
theorem d9_18 : decode jdk_42_method_139_code 18 = .ok (.invokestatic 1018, 3) := by decide +kernel
theorem d9_21 : decode jdk_42_method_139_code 21 = .ok (.iconst 0, 1) := by decide +kernel
theorem d9_22 : decode jdk_42_method_139_code 22 = .ok (.invokespecial 209, 3) := by decide +kernel
theorem d9_25 : decode jdk_42_method_139_code 25 = .ok (.areturn, 1) := by decide +kernel
theorem ef_9 (m : MethodId) (p9_0 : Int32) : entryFrame m #[(.int p9_0)] 1 = mkF m 0 #[.val (.int p9_0)] [] := by first | (simp [entryFrame, mkF, argsToLocals, Value.category]; done) | rfl
def Q9 (Z : State) (p9_0 : Int32) (cs : Int32) (h0 : Heap) (n0 : Nat) (v : Option Value) (h : Heap) (L : List Loc) : Prop := ∃ sx : Addr, v = some (.ref sx) ∧ Fr n0 L ∧ Keep h0 h [] ∧ n0 ≤ sx ∧ h0.size ≤ sx
set_option maxRecDepth 65536 in
set_option maxHeartbeats 40000000 in
theorem rm9 (l : Launch) (Z : State) (a0 : Array Value) (hw : ∀ d ∈ tables_1, d.before a0 Z = true) (ws : List Jvm.Cond) (p9_0 : Int32) (cs : Int32) (h0 : Heap) (n0 : Nat) (Z0 : n0 ≤ h0.size) (Sc : Sta Z h0 "java/lang/String" "COMPACT_STRINGS" "Z" (.int cs)) (hcs : ¬ (cs = (0 : Int32))) (hpc : ¬ ((255 : Int32) < p9_0)) :
    MetFree l (⟨"java/lang/String", "valueOf", "(C)Ljava/lang/String;"⟩ : MethodName) (head1 (Jvm.Cond.code (⟨"java/lang/String", "valueOf", "(C)Ljava/lang/String;"⟩ : MethodName) jdk_42_method_139_code 1 (some (.object "java/lang/String")) :: ws) ({ frames := 2, cells := 2, slots := 5, locals := 27 } : Room)) (fun a U => a = #[(.int p9_0)] ∧ Z.Warmed39 U.vm ∧ U.heap = h0) (fun _ _ _ _ _ => True) (fun _ U o U' => ∃ v L, o = .returned v ∧ Q9 Z p9_0 cs h0 n0 v U'.heap L ∧ FrameEnd U o U' L ({ frames := 2, cells := 2, slots := 5, locals := 27 } : Room).cells ({ frames := 2, cells := 2, slots := 5, locals := 27 } : Room).slots) := by
  refine MetFree.of_bodySF (plainFor_of_name pn_5) hisR ?_
  intro p e s m args below meth c s₁ Bd hml0 hP hK
  obtain ⟨rfl, hZ, hh⟩ := hP
  have hx := Bd.exec
  have hby := Bd.bytes
  have hml : c.maxLocals = 1 := hml0
  have hown : s.vm.findClass "java/lang/String" = some m.cls := findClass_of_methodNamed Bd.named
  have hnm := (name_of_methodNamed Bd.named Bd.method).1
  have X0 : Stand p l e ({ frames := 2, cells := 2, slots := 5, locals := 27 } : Room) s m #[(.int p9_0)] below meth c s₁ [] 0 0 := Stand.of_body Bd
  have e0 : s₁.heap = h0 := by rw [← hh, Bd.state]; rfl
  have N0 := Fr.nil n0
  have pre0 : ∀ t, Steps p.tables e below (s₁.setTop (mkF m 0 #[.val (.int p9_0)] [])) t → Steps p.tables e below (s₁.setTop (entryFrame m #[(.int p9_0)] 1)) t := fun t k => castTop (ef_9 m p9_0) k
  obtain ⟨T1, X1, e1, st1⟩ := getS2 X0 hx hZ hown (host := "") (Or.inl (wd hw 58 rfl)) Via.refl e0 Sc (g := (mkF m 0 #[.val (.int p9_0)] [])) rfl (hb hby d9_0)
  obtain ⟨_, _, ⟨T2, L2, k2, n2⟩, -, X2, ⟨Lc2, hQ2, l2, y2, z2⟩, st2⟩ := Jvm.LawKit.callS X1 hx (y := (⟨"java/lang/StringLatin1", "canEncode", "(C)Z"⟩ : MethodName)) hown (mvT hZ (wd hw 59 rfl)) (mvT hZ (wd hw 60 rfl)) (mvT hZ (wd hw 61 rfl)) (mvT hZ (wd hw 62 rfl)) (by decide) (backOf (W := 0) (rm6 l Z a0 hw [] p9_0 h0 n0 Z0 ) hZ (wd hw 62 rfl) (wd hw 61 rfl) (by decide) (by decide)) (g := (mkF m 7 #[.val (.int p9_0)] [(.int p9_0)])) rfl (by rw [hml]; rfl) (argsL := [(.int p9_0)]) (rest := []) (lenOf pd_2 rfl) rfl (by show 2 * 0 + _ ≤ _; exact Nat.le_of_eq rfl) (hb hby d9_7) (fun _ _ => ⟨rfl, e1, (by decide : 0 + 0 ≤ _), (by decide : 0 + 0 ≤ _)⟩)
  dsimp only [Pt.U, Pt.locs, Pt.cells, Pt.slots] at X2 l2 y2 z2 st2 hQ2
  rw [l2, y2, z2] at X2
  obtain ⟨rfl, N2q, eh2⟩ := hQ2
  have N2 := Fr.app N0 N2q
  obtain ⟨b3, g3⟩ : ∃ z, z = h0.size := ⟨_, rfl⟩
  obtain ⟨T3, h3, X3, e3, E3, A3, D3, -, st3⟩ := newO X2 hx hZ hown (wd hw 63 rfl) (wd hw 9 rfl) (wd hw 8 rfl) eh2 (g := (mkF m 13 #[.val (.int p9_0)] [])) rfl (hb hby d9_13) (by decide) (by decide)
  rw [← g3] at A3 D3 st3
  have gg3 : n0 ≤ b3 := Nat.le_trans Z0 (Nat.le_of_eq g3.symm)
  have sz3 : h0.size ≤ b3 := Nat.le_trans (Keep.refl h0 []).1 (Nat.le_of_eq g3.symm)
  have Zs3 : n0 ≤ h3.size := Nat.le_trans Z0 E3.1
  have K3 : Keep h0 h3 [] := (Keep.refl h0 []).ext E3
  have F4 := Sc.ext E3
  have F5 : Fld Z h3 b3 "java/lang/String" "value" "[B" .null := D3 (Or.inr (wd hw 11 rfl)) (ty := (.array .byte)) (by decide)
  have F6 : Fld Z h3 b3 "java/lang/String" "coder" "B" (.int (0 : Int32)) := D3 (Or.inr (wd hw 12 rfl)) (ty := .byte) (by decide)
  obtain ⟨_, _, ⟨T7, L7, k7, n7⟩, -, X7, ⟨Lc7, hQ7, l7, y7, z7⟩, st7⟩ := Jvm.LawKit.callS X3 hx (y := (⟨"java/lang/StringLatin1", "toBytes", "(C)[B"⟩ : MethodName)) hown (mvT hZ (wd hw 64 rfl)) (mvT hZ (wd hw 65 rfl)) (mvT hZ (wd hw 61 rfl)) (mvT hZ (wd hw 66 rfl)) (by decide) (backOf (W := 2) (rm7 l Z a0 hw [] p9_0 h3 n0 Zs3 ) hZ (wd hw 66 rfl) (wd hw 61 rfl) (by decide) (by decide)) (g := (mkF m 18 #[.val (.int p9_0)] [(.int p9_0), (.ref b3), (.ref b3)])) rfl (by rw [hml]; rfl) (argsL := [(.int p9_0)]) (rest := [(.ref b3), (.ref b3)]) (lenOf pd_3 rfl) rfl (by show 2 * 0 + _ ≤ _; exact Nat.le_of_eq rfl) (hb hby d9_18) (fun _ _ => ⟨rfl, e3, (by decide : 1 + 1 ≤ _), (by decide : 4 + 1 ≤ _)⟩)
  dsimp only [Pt.U, Pt.locs, Pt.cells, Pt.slots] at X7 l7 y7 z7 st7 hQ7
  rw [l7, y7, z7] at X7
  obtain ⟨bx_7, rfl, N7q, Kc7, ggbx_7, szbx_7⟩ := hQ7
  have ne8 : b3 ≠ bx_7 := Nat.ne_of_lt (Nat.lt_of_lt_of_le A3.lt szbx_7)
  have szzbx_7 : h0.size ≤ bx_7 := Nat.le_trans K3.1 szbx_7
  have Zs7 : n0 ≤ T7.heap.size := Nat.le_trans Zs3 Kc7.1
  have K7 : Keep h0 T7.heap [] := K3.trans Kc7 all0
  have F9 := own_stakeep F4 Kc7 all0
  have F10 := A3.keep Kc7
  have F11 := F5.keep Kc7 nin0
  have F12 := F6.keep Kc7 nin0
  have N7 := Fr.app N2 N7q
  obtain ⟨_, _, ⟨T13, L13, k13, n13⟩, -, X13, ⟨Lc13, hQ13, l13, y13, z13⟩, st13⟩ := X7.specialBack hx (y := (⟨"java/lang/String", "<init>", "([BB)V"⟩ : MethodName)) rfl hown (mvT hZ (wd hw 67 rfl)) (mvT hZ (wd hw 68 rfl)) (mvT hZ (wd hw 70 rfl)) (by decide) (backOf (W := 1) (rm8 l Z a0 hw [] b3 bx_7 T7.heap n0 Zs7 F10 F11 F12 gg3) hZ (wd hw 70 rfl) (wd hw 8 rfl) (by decide) (by decide)) (g := (mkF m 22 #[.val (.int p9_0)] [(.int (0 : Int32)), (.ref bx_7), (.ref b3), (.ref b3)])) rfl (by rw [hml]; rfl) (Steps.refl _) (a := b3) (argsL := [(.ref bx_7), (.int (0 : Int32))]) (rest := [(.ref b3)]) (lenOf pd_4 rfl) rfl (by show 2 * 0 + _ ≤ _; exact Nat.le_of_eq rfl) (hb hby d9_22) (fun _ _ => ⟨rfl, rfl, (by decide : 2 + 0 ≤ _), (by decide : 5 + 0 ≤ _)⟩)
  dsimp only [Pt.U, Pt.locs, Pt.cells, Pt.slots] at X13 l13 y13 z13 st13 hQ13
  rw [l13, y13, z13] at X13
  obtain ⟨rfl, N13q, Kc13, G13_0⟩ := hQ13
  have Zs13 : n0 ≤ T13.heap.size := Nat.le_trans Zs7 Kc13.1
  have K13 : Keep h0 T13.heap [] := K7.trans Kc13 (allS (Or.inr sz3) all0)
  have F14 := own_stakeep F9 Kc13 (allS (own_nsE F10) all0)
  have N13 := Fr.app N7 N13q
  have k17 : ∀ t, Steps p.tables e below (T13.setTop (mkF m 25 #[.val (.int p9_0)] [(.ref b3)])) t → Steps p.tables e below (s₁.setTop (entryFrame m #[(.int p9_0)] 1)) t := by
    intro t k
    refine pre0 t ?_
    refine st1 _ ?_
    refine XS.ifNo X1.here hx rfl (hb hby d9_3) rfl ((if0 _ _).trans (feq hcs).1) ?_
    refine XS.iloadN X1.here hx rfl (hb hby d9_6) rfl ?_
    refine st2 _ ?_
    refine XS.ifNo X2.here hx rfl (hb hby d9_10) rfl ((if0 _ _).trans (feq (own_can1 _ hpc)).1) ?_
    refine st3 _ ?_
    refine XS.dup X3.here hx rfl (hb hby d9_16) rfl rfl ?_
    refine XS.iloadN X3.here hx rfl (hb hby d9_17) rfl ?_
    refine st7 _ ?_
    refine XS.iconst X7.here hx rfl (hb hby d9_21) ?_
    refine st13.trans ?_
    exact k
  obtain ⟨fs, hr, hrun, hended, hW, hsame⟩ := X13.leave (v := some (.ref b3)) (fun h => by rw [Bd.returns] at h; cases h)
  refine ⟨_, _, k17 _ ?_, hrun, hended, _, _, rfl, ?_, ⟨_, rfl⟩, hW, hsame.mono (by decide) (by decide)⟩
  · exact retOut X13 hx Bd.returns rfl (Or.inr (Or.inr (Or.inr (Or.inr ⟨rfl, rfl, rfl⟩)))) (hb hby d9_25) hr
  · show Q9 Z p9_0 cs h0 n0 _ T13.heap _
    exact ⟨b3, rfl, N13, K13, gg3, sz3⟩
theorem own_m255 (x : Int32) : ¬ ((x &&& (255 : Int32)) < (0 : Int32)) ∧ ¬ ((255 : Int32) < (x &&& (255 : Int32))) := by
  have h := c_mask x 255 8 (by decide) (by decide)
  simp only [own_lt, h, show (0 : Int32).toInt = 0 from rfl, show (255 : Int32).toInt = 255 from rfl]; omega
theorem own_c255 (x : Int32) : ¬ ((255 : Int32) < (x &&& (255 : Int32)).toUInt32.toUInt16.toUInt32.toInt32) := by
  have h := own_m255 x
  have c := c_i2c (x &&& (255 : Int32))
  simp only [own_lt, show (0 : Int32).toInt = 0 from rfl, show (255 : Int32).toInt = 255 from rfl] at *; omega
theorem pn_6 : plainName "com/example/batchrake/batchrake/DeleteReportHasFailuresPinLaw" = true := by first | (simp [plainName, overriddenIn]; done) | decide +kernel
theorem pd_5 : parseMethodDescriptor "(C)Ljava/lang/String;" = some ⟨[.char], some (.object "java/lang/String")⟩ := by decide +kernel
theorem d10_0 : decode method_3_code 0 = .ok (.iload_n 0, 1) := by decide +kernel
theorem d10_1 : decode method_3_code 1 = .ok (.bipush 8, 2) := by decide +kernel
theorem d10_3 : decode method_3_code 3 = .ok (.iushr, 1) := by decide +kernel
theorem d10_4 : decode method_3_code 4 = .ok (.sipush 255, 3) := by decide +kernel
theorem d10_7 : decode method_3_code 7 = .ok (.iand, 1) := by decide +kernel
theorem d10_8 : decode method_3_code 8 = .ok (.i2c, 1) := by decide +kernel
theorem d10_9 : decode method_3_code 9 = .ok (.invokestatic 25, 3) := by decide +kernel
theorem d10_12 : decode method_3_code 12 = .ok (.areturn, 1) := by decide +kernel
theorem ef_10 (m : MethodId) (p10_0 : Int32) : entryFrame m #[(.int p10_0)] 1 = mkF m 0 #[.val (.int p10_0)] [] := by first | (simp [entryFrame, mkF, argsToLocals, Value.category]; done) | rfl
def Q10 (Z : State) (p10_0 : Int32) (cs : Int32) (h0 : Heap) (n0 : Nat) (v : Option Value) (h : Heap) (L : List Loc) : Prop := ∃ sx : Addr, v = some (.ref sx) ∧ Fr n0 L ∧ Keep h0 h [] ∧ n0 ≤ sx ∧ h0.size ≤ sx
set_option maxRecDepth 65536 in
set_option maxHeartbeats 40000000 in
theorem rm10 (l : Launch) (Z : State) (a0 : Array Value) (hw : ∀ d ∈ tables_1, d.before a0 Z = true) (ws : List Jvm.Cond) (p10_0 : Int32) (cs : Int32) (h0 : Heap) (n0 : Nat) (Z0 : n0 ≤ h0.size) (Sc : Sta Z h0 "java/lang/String" "COMPACT_STRINGS" "Z" (.int cs)) (hcs : ¬ (cs = (0 : Int32))) :
    MetFree l (⟨"com/example/batchrake/batchrake/DeleteReportHasFailuresPinLaw", "name", "(I)Ljava/lang/String;"⟩ : MethodName) (head1 (Jvm.Cond.code (⟨"com/example/batchrake/batchrake/DeleteReportHasFailuresPinLaw", "name", "(I)Ljava/lang/String;"⟩ : MethodName) method_3_code 1 (some (.object "java/lang/String")) :: ws) ({ frames := 3, cells := 2, slots := 5, locals := 39 } : Room)) (fun a U => a = #[(.int p10_0)] ∧ Z.Warmed39 U.vm ∧ U.heap = h0) (fun _ _ _ _ _ => True) (fun _ U o U' => ∃ v L, o = .returned v ∧ Q10 Z p10_0 cs h0 n0 v U'.heap L ∧ FrameEnd U o U' L ({ frames := 3, cells := 2, slots := 5, locals := 39 } : Room).cells ({ frames := 3, cells := 2, slots := 5, locals := 39 } : Room).slots) := by
  refine MetFree.of_bodySF (plainFor_of_name pn_6) hisR ?_
  intro p e s m args below meth c s₁ Bd hml0 hP hK
  obtain ⟨rfl, hZ, hh⟩ := hP
  have hx := Bd.exec
  have hby := Bd.bytes
  have hml : c.maxLocals = 1 := hml0
  have hown : s.vm.findClass "com/example/batchrake/batchrake/DeleteReportHasFailuresPinLaw" = some m.cls := findClass_of_methodNamed Bd.named
  have hnm := (name_of_methodNamed Bd.named Bd.method).1
  have X0 : Stand p l e ({ frames := 3, cells := 2, slots := 5, locals := 39 } : Room) s m #[(.int p10_0)] below meth c s₁ [] 0 0 := Stand.of_body Bd
  have e0 : s₁.heap = h0 := by rw [← hh, Bd.state]; rfl
  have N0 := Fr.nil n0
  have pre0 : ∀ t, Steps p.tables e below (s₁.setTop (mkF m 0 #[.val (.int p10_0)] [])) t → Steps p.tables e below (s₁.setTop (entryFrame m #[(.int p10_0)] 1)) t := fun t k => castTop (ef_10 m p10_0) k
  obtain ⟨_, _, ⟨T1, L1, k1, n1⟩, -, X1, ⟨Lc1, hQ1, l1, y1, z1⟩, st1⟩ := Jvm.LawKit.callS X0 hx (y := (⟨"java/lang/String", "valueOf", "(C)Ljava/lang/String;"⟩ : MethodName)) hown (mvT hZ (wd hw 55 rfl)) (mvT hZ (wd hw 56 rfl)) (mvT hZ (wd hw 8 rfl)) (mvT hZ (wd hw 57 rfl)) (by decide) (backOf (W := 0) (rm9 l Z a0 hw [] (((p10_0.toUInt32 >>> ((8 : Int32) &&& 31).toUInt32).toInt32) &&& (255 : Int32)).toUInt32.toUInt16.toUInt32.toInt32 cs h0 n0 Z0 Sc hcs (own_c255 _)) hZ (wd hw 57 rfl) (wd hw 8 rfl) (by decide) (by decide)) (g := (mkF m 9 #[.val (.int p10_0)] [(.int (((p10_0.toUInt32 >>> ((8 : Int32) &&& 31).toUInt32).toInt32) &&& (255 : Int32)).toUInt32.toUInt16.toUInt32.toInt32)])) rfl (by rw [hml]; rfl) (argsL := [(.int (((p10_0.toUInt32 >>> ((8 : Int32) &&& 31).toUInt32).toInt32) &&& (255 : Int32)).toUInt32.toUInt16.toUInt32.toInt32)]) (rest := []) (lenOf pd_5 rfl) rfl (by show 2 * 0 + _ ≤ _; exact Nat.le_of_eq rfl) (hb hby d10_9) (fun _ _ => ⟨rfl, e0, (by decide : 0 + 2 ≤ _), (by decide : 0 + 5 ≤ _)⟩)
  dsimp only [Pt.U, Pt.locs, Pt.cells, Pt.slots] at X1 l1 y1 z1 st1 hQ1
  rw [l1, y1, z1] at X1
  obtain ⟨sx_1, rfl, N1q, Kc1, ggsx_1, szsx_1⟩ := hQ1
  have szzsx_1 : h0.size ≤ sx_1 := Nat.le_trans (Keep.refl h0 []).1 szsx_1
  have Zs1 : n0 ≤ T1.heap.size := Nat.le_trans Z0 Kc1.1
  have K1 : Keep h0 T1.heap [] := (Keep.refl h0 []).trans Kc1 all0
  have F2 := own_stakeep Sc Kc1 all0
  have N1 := Fr.app N0 N1q
  have k3 : ∀ t, Steps p.tables e below (T1.setTop (mkF m 12 #[.val (.int p10_0)] [(.ref sx_1)])) t → Steps p.tables e below (s₁.setTop (entryFrame m #[(.int p10_0)] 1)) t := by
    intro t k
    refine pre0 t ?_
    refine XS.iloadN X0.here hx rfl (hb hby d10_0) rfl ?_
    refine XS.bipush X0.here hx rfl (hb hby d10_1) ?_
    refine XS.iushr X0.here hx rfl (hb hby d10_3) rfl ?_
    refine XS.sipush X0.here hx rfl (hb hby d10_4) ?_
    refine XS.iand X0.here hx rfl (hb hby d10_7) rfl ?_
    refine XS.i2c X0.here hx rfl (hb hby d10_8) rfl ?_
    refine st1 _ ?_
    exact k
  obtain ⟨fs, hr, hrun, hended, hW, hsame⟩ := X1.leave (v := some (.ref sx_1)) (fun h => by rw [Bd.returns] at h; cases h)
  refine ⟨_, _, k3 _ ?_, hrun, hended, _, _, rfl, ?_, ⟨_, rfl⟩, hW, hsame.mono (by decide) (by decide)⟩
  · exact retOut X1 hx Bd.returns rfl (Or.inr (Or.inr (Or.inr (Or.inr ⟨rfl, rfl, rfl⟩)))) (hb hby d10_12) hr
  · show Q10 Z p10_0 cs h0 n0 _ T1.heap _
    exact ⟨sx_1, rfl, N1, K1, ggsx_1, szzsx_1⟩
theorem d11_0 : decode method_2_code 0 = .ok (.iload_n 0, 1) := by decide +kernel
theorem d11_1 : decode method_2_code 1 = .ok (.ifCond .ne 7, 3) := by decide +kernel
theorem d11_4 : decode method_2_code 4 = .ok (.getstatic 7, 3) := by decide +kernel
theorem d11_7 : decode method_2_code 7 = .ok (.areturn, 1) := by decide +kernel
theorem d11_8 : decode method_2_code 8 = .ok (.iload_n 0, 1) := by decide +kernel
theorem d11_9 : decode method_2_code 9 = .ok (.iconst 1, 1) := by decide +kernel
theorem d11_10 : decode method_2_code 10 = .ok (.if_icmp .ne 7, 3) := by decide +kernel
theorem d11_13 : decode method_2_code 13 = .ok (.getstatic 13, 3) := by decide +kernel
theorem d11_16 : decode method_2_code 16 = .ok (.areturn, 1) := by decide +kernel
theorem ef_11 (m : MethodId) (p11_0 : Int32) : entryFrame m #[(.int p11_0)] 1 = mkF m 0 #[.val (.int p11_0)] [] := by first | (simp [entryFrame, mkF, argsToLocals, Value.category]; done) | rfl
def Q11 (Z : State) (p11_0 : Int32) (u_DELETED : Addr) (u_NOT_FOUND : Addr) (h0 : Heap) (n0 : Nat) (v : Option Value) (h : Heap) (L : List Loc) : Prop := ∃ ux : Nat, v = some (.ref ux) ∧ Fr n0 L ∧ Keep h0 h [] ∧ Exa Z h ux "com/example/batchrake/batchrake/Outcome" ∧ Fld Z h ux "java/lang/Enum" "ordinal" "I" (.int p11_0)
set_option maxRecDepth 65536 in
set_option maxHeartbeats 40000000 in
theorem rm11 (l : Launch) (Z : State) (a0 : Array Value) (hw : ∀ d ∈ tables_1, d.before a0 Z = true) (ws : List Jvm.Cond) (p11_0 : Int32) (u_DELETED : Addr) (u_NOT_FOUND : Addr) (h0 : Heap) (n0 : Nat) (Z0 : n0 ≤ h0.size) (S_DELETED : Sta Z h0 "com/example/batchrake/batchrake/Outcome" "DELETED" "Lcom/example/batchrake/batchrake/Outcome;" (.ref u_DELETED)) (E_u_DELETED : Exa Z h0 u_DELETED "com/example/batchrake/batchrake/Outcome") (F_u_DELETED_ordinal : Fld Z h0 u_DELETED "java/lang/Enum" "ordinal" "I" (.int (0 : Int32))) (S_NOT_FOUND : Sta Z h0 "com/example/batchrake/batchrake/Outcome" "NOT_FOUND" "Lcom/example/batchrake/batchrake/Outcome;" (.ref u_NOT_FOUND)) (E_u_NOT_FOUND : Exa Z h0 u_NOT_FOUND "com/example/batchrake/batchrake/Outcome") (F_u_NOT_FOUND_ordinal : Fld Z h0 u_NOT_FOUND "java/lang/Enum" "ordinal" "I" (.int (1 : Int32))) (hg : p11_0 = (0 : Int32) ∨ p11_0 = (1 : Int32)) :
    MetFree l (⟨"com/example/batchrake/batchrake/DeleteReportHasFailuresPinLaw", "pick", "(I)Lcom/example/batchrake/batchrake/Outcome;"⟩ : MethodName) (head1 (Jvm.Cond.code (⟨"com/example/batchrake/batchrake/DeleteReportHasFailuresPinLaw", "pick", "(I)Lcom/example/batchrake/batchrake/Outcome;"⟩ : MethodName) method_2_code 1 (some (.object "com/example/batchrake/batchrake/Outcome")) :: ws) ({ frames := 0, cells := 0, slots := 0, locals := 0 } : Room)) (fun a U => a = #[(.int p11_0)] ∧ Z.Warmed39 U.vm ∧ U.heap = h0) (fun _ _ _ _ _ => True) (fun _ U o U' => ∃ v L, o = .returned v ∧ Q11 Z p11_0 u_DELETED u_NOT_FOUND h0 n0 v U'.heap L ∧ FrameEnd U o U' L ({ frames := 0, cells := 0, slots := 0, locals := 0 } : Room).cells ({ frames := 0, cells := 0, slots := 0, locals := 0 } : Room).slots) := by
  refine MetFree.of_bodySF (plainFor_of_name pn_6) hisR ?_
  intro p e s m args below meth c s₁ Bd hml0 hP hK
  obtain ⟨rfl, hZ, hh⟩ := hP
  have hx := Bd.exec
  have hby := Bd.bytes
  have hml : c.maxLocals = 1 := hml0
  have hown : s.vm.findClass "com/example/batchrake/batchrake/DeleteReportHasFailuresPinLaw" = some m.cls := findClass_of_methodNamed Bd.named
  have hnm := (name_of_methodNamed Bd.named Bd.method).1
  have X0 : Stand p l e ({ frames := 0, cells := 0, slots := 0, locals := 0 } : Room) s m #[(.int p11_0)] below meth c s₁ [] 0 0 := Stand.of_body Bd
  have e0 : s₁.heap = h0 := by rw [← hh, Bd.state]; rfl
  have N0 := Fr.nil n0
  have pre0 : ∀ t, Steps p.tables e below (s₁.setTop (mkF m 0 #[.val (.int p11_0)] [])) t → Steps p.tables e below (s₁.setTop (entryFrame m #[(.int p11_0)] 1)) t := fun t k => castTop (ef_11 m p11_0) k
  rcases hg with rfl | rfl
  · skip
    obtain ⟨T1, X1, e1, st1⟩ := getS2 X0 hx hZ hown (host := "") (Or.inl (wd hw 77 rfl)) Via.refl e0 S_DELETED (g := (mkF m 4 #[.val (.int (0 : Int32))] [])) rfl (hb hby d11_4)
    have k2 : ∀ t, Steps p.tables e below (T1.setTop (mkF m 7 #[.val (.int (0 : Int32))] [(.ref u_DELETED)])) t → Steps p.tables e below (s₁.setTop (entryFrame m #[(.int (0 : Int32))] 1)) t := by
      intro t k
      refine pre0 t ?_
      refine XS.iloadN X0.here hx rfl (hb hby d11_0) rfl ?_
      refine XS.ifNo X0.here hx rfl (hb hby d11_1) rfl ((if0 _ _).trans (teq (by decide : (0 : Int32) = (0 : Int32))).2) ?_
      refine st1 _ ?_
      exact k
    obtain ⟨fs, hr, hrun, hended, hW, hsame⟩ := X1.leave (v := some (.ref u_DELETED)) (fun h => by rw [Bd.returns] at h; cases h)
    refine ⟨_, _, k2 _ ?_, hrun, hended, _, _, rfl, ?_, ⟨_, rfl⟩, hW, hsame.mono (by decide) (by decide)⟩
    · exact retOut X1 hx Bd.returns rfl (Or.inr (Or.inr (Or.inr (Or.inr ⟨rfl, rfl, rfl⟩)))) (hb hby d11_7) hr
    · show Q11 Z (0 : Int32) u_DELETED u_NOT_FOUND h0 n0 _ T1.heap _
      rw [e1]
      exact ⟨u_DELETED, rfl, N0, (Keep.refl h0 []), E_u_DELETED, F_u_DELETED_ordinal⟩
  · skip
    obtain ⟨T3, X3, e3, st3⟩ := getS2 X0 hx hZ hown (host := "") (Or.inl (wd hw 214 rfl)) Via.refl e0 S_NOT_FOUND (g := (mkF m 13 #[.val (.int (1 : Int32))] [])) rfl (hb hby d11_13)
    have k4 : ∀ t, Steps p.tables e below (T3.setTop (mkF m 16 #[.val (.int (1 : Int32))] [(.ref u_NOT_FOUND)])) t → Steps p.tables e below (s₁.setTop (entryFrame m #[(.int (1 : Int32))] 1)) t := by
      intro t k
      refine pre0 t ?_
      refine XS.iloadN X0.here hx rfl (hb hby d11_0) rfl ?_
      refine XS.ifYes X0.here hx rfl (pc0 := 1) (pc' := 8) rfl (hb hby d11_1) rfl ((if0 _ _).trans (feq (by decide : ¬ ((1 : Int32) = (0 : Int32)))).2) (by decide) (by decide) ?_
      refine XS.iloadN X0.here hx rfl (hb hby d11_8) rfl ?_
      refine XS.iconst X0.here hx rfl (hb hby d11_9) ?_
      refine XS.icmpNo X0.here hx rfl (hb hby d11_10) rfl (teq (by decide : (1 : Int32) = (1 : Int32))).2 ?_
      refine st3 _ ?_
      exact k
    obtain ⟨fs, hr, hrun, hended, hW, hsame⟩ := X3.leave (v := some (.ref u_NOT_FOUND)) (fun h => by rw [Bd.returns] at h; cases h)
    refine ⟨_, _, k4 _ ?_, hrun, hended, _, _, rfl, ?_, ⟨_, rfl⟩, hW, hsame.mono (by decide) (by decide)⟩
    · exact retOut X3 hx Bd.returns rfl (Or.inr (Or.inr (Or.inr (Or.inr ⟨rfl, rfl, rfl⟩)))) (hb hby d11_16) hr
    · show Q11 Z (1 : Int32) u_DELETED u_NOT_FOUND h0 n0 _ T3.heap _
      rw [e3]
      exact ⟨u_NOT_FOUND, rfl, N0, (Keep.refl h0 []), E_u_NOT_FOUND, F_u_NOT_FOUND_ordinal⟩
theorem d12_0 : decode method_2_code 0 = .ok (.iload_n 0, 1) := by decide +kernel
theorem d12_1 : decode method_2_code 1 = .ok (.ifCond .ne 7, 3) := by decide +kernel
theorem d12_8 : decode method_2_code 8 = .ok (.iload_n 0, 1) := by decide +kernel
theorem d12_9 : decode method_2_code 9 = .ok (.iconst 1, 1) := by decide +kernel
theorem d12_10 : decode method_2_code 10 = .ok (.if_icmp .ne 7, 3) := by decide +kernel
theorem d12_17 : decode method_2_code 17 = .ok (.iload_n 0, 1) := by decide +kernel
theorem d12_18 : decode method_2_code 18 = .ok (.iconst 2, 1) := by decide +kernel
theorem d12_19 : decode method_2_code 19 = .ok (.if_icmp .ne 7, 3) := by decide +kernel
theorem d12_22 : decode method_2_code 22 = .ok (.getstatic 16, 3) := by decide +kernel
theorem d12_25 : decode method_2_code 25 = .ok (.areturn, 1) := by decide +kernel
theorem d12_26 : decode method_2_code 26 = .ok (.iload_n 0, 1) := by decide +kernel
theorem d12_27 : decode method_2_code 27 = .ok (.iconst 3, 1) := by decide +kernel
theorem d12_28 : decode method_2_code 28 = .ok (.if_icmp .ne 7, 3) := by decide +kernel
theorem d12_31 : decode method_2_code 31 = .ok (.getstatic 19, 3) := by decide +kernel
theorem d12_34 : decode method_2_code 34 = .ok (.areturn, 1) := by decide +kernel
theorem d12_35 : decode method_2_code 35 = .ok (.getstatic 22, 3) := by decide +kernel
theorem d12_38 : decode method_2_code 38 = .ok (.areturn, 1) := by decide +kernel
theorem ef_12 (m : MethodId) (p12_0 : Int32) : entryFrame m #[(.int p12_0)] 1 = mkF m 0 #[.val (.int p12_0)] [] := by first | (simp [entryFrame, mkF, argsToLocals, Value.category]; done) | rfl
def Q12 (Z : State) (p12_0 : Int32) (u_BAD_REQUEST : Addr) (u_CONFLICT : Addr) (u_STORE_ERROR : Addr) (h0 : Heap) (n0 : Nat) (v : Option Value) (h : Heap) (L : List Loc) : Prop := ∃ ux : Nat, v = some (.ref ux) ∧ Fr n0 L ∧ Keep h0 h [] ∧ Exa Z h ux "com/example/batchrake/batchrake/Outcome" ∧ Fld Z h ux "java/lang/Enum" "ordinal" "I" (.int p12_0)
set_option maxRecDepth 65536 in
set_option maxHeartbeats 40000000 in
theorem rm12 (l : Launch) (Z : State) (a0 : Array Value) (hw : ∀ d ∈ tables_1, d.before a0 Z = true) (ws : List Jvm.Cond) (p12_0 : Int32) (u_BAD_REQUEST : Addr) (u_CONFLICT : Addr) (u_STORE_ERROR : Addr) (h0 : Heap) (n0 : Nat) (Z0 : n0 ≤ h0.size) (S_BAD_REQUEST : Sta Z h0 "com/example/batchrake/batchrake/Outcome" "BAD_REQUEST" "Lcom/example/batchrake/batchrake/Outcome;" (.ref u_BAD_REQUEST)) (E_u_BAD_REQUEST : Exa Z h0 u_BAD_REQUEST "com/example/batchrake/batchrake/Outcome") (F_u_BAD_REQUEST_ordinal : Fld Z h0 u_BAD_REQUEST "java/lang/Enum" "ordinal" "I" (.int (2 : Int32))) (S_CONFLICT : Sta Z h0 "com/example/batchrake/batchrake/Outcome" "CONFLICT" "Lcom/example/batchrake/batchrake/Outcome;" (.ref u_CONFLICT)) (E_u_CONFLICT : Exa Z h0 u_CONFLICT "com/example/batchrake/batchrake/Outcome") (F_u_CONFLICT_ordinal : Fld Z h0 u_CONFLICT "java/lang/Enum" "ordinal" "I" (.int (3 : Int32))) (S_STORE_ERROR : Sta Z h0 "com/example/batchrake/batchrake/Outcome" "STORE_ERROR" "Lcom/example/batchrake/batchrake/Outcome;" (.ref u_STORE_ERROR)) (E_u_STORE_ERROR : Exa Z h0 u_STORE_ERROR "com/example/batchrake/batchrake/Outcome") (F_u_STORE_ERROR_ordinal : Fld Z h0 u_STORE_ERROR "java/lang/Enum" "ordinal" "I" (.int (4 : Int32))) (hg : p12_0 = (2 : Int32) ∨ p12_0 = (3 : Int32) ∨ p12_0 = (4 : Int32)) :
    MetFree l (⟨"com/example/batchrake/batchrake/DeleteReportHasFailuresPinLaw", "pick", "(I)Lcom/example/batchrake/batchrake/Outcome;"⟩ : MethodName) (head1 (Jvm.Cond.code (⟨"com/example/batchrake/batchrake/DeleteReportHasFailuresPinLaw", "pick", "(I)Lcom/example/batchrake/batchrake/Outcome;"⟩ : MethodName) method_2_code 1 (some (.object "com/example/batchrake/batchrake/Outcome")) :: ws) ({ frames := 0, cells := 0, slots := 0, locals := 0 } : Room)) (fun a U => a = #[(.int p12_0)] ∧ Z.Warmed39 U.vm ∧ U.heap = h0) (fun _ _ _ _ _ => True) (fun _ U o U' => ∃ v L, o = .returned v ∧ Q12 Z p12_0 u_BAD_REQUEST u_CONFLICT u_STORE_ERROR h0 n0 v U'.heap L ∧ FrameEnd U o U' L ({ frames := 0, cells := 0, slots := 0, locals := 0 } : Room).cells ({ frames := 0, cells := 0, slots := 0, locals := 0 } : Room).slots) := by
  refine MetFree.of_bodySF (plainFor_of_name pn_6) hisR ?_
  intro p e s m args below meth c s₁ Bd hml0 hP hK
  obtain ⟨rfl, hZ, hh⟩ := hP
  have hx := Bd.exec
  have hby := Bd.bytes
  have hml : c.maxLocals = 1 := hml0
  have hown : s.vm.findClass "com/example/batchrake/batchrake/DeleteReportHasFailuresPinLaw" = some m.cls := findClass_of_methodNamed Bd.named
  have hnm := (name_of_methodNamed Bd.named Bd.method).1
  have X0 : Stand p l e ({ frames := 0, cells := 0, slots := 0, locals := 0 } : Room) s m #[(.int p12_0)] below meth c s₁ [] 0 0 := Stand.of_body Bd
  have e0 : s₁.heap = h0 := by rw [← hh, Bd.state]; rfl
  have N0 := Fr.nil n0
  have pre0 : ∀ t, Steps p.tables e below (s₁.setTop (mkF m 0 #[.val (.int p12_0)] [])) t → Steps p.tables e below (s₁.setTop (entryFrame m #[(.int p12_0)] 1)) t := fun t k => castTop (ef_12 m p12_0) k
  rcases hg with rfl | rfl | rfl
  · skip
    obtain ⟨T1, X1, e1, st1⟩ := getS2 X0 hx hZ hown (host := "") (Or.inl (wd hw 147 rfl)) Via.refl e0 S_BAD_REQUEST (g := (mkF m 22 #[.val (.int (2 : Int32))] [])) rfl (hb hby d12_22)
    have k2 : ∀ t, Steps p.tables e below (T1.setTop (mkF m 25 #[.val (.int (2 : Int32))] [(.ref u_BAD_REQUEST)])) t → Steps p.tables e below (s₁.setTop (entryFrame m #[(.int (2 : Int32))] 1)) t := by
      intro t k
      refine pre0 t ?_
      refine XS.iloadN X0.here hx rfl (hb hby d12_0) rfl ?_
      refine XS.ifYes X0.here hx rfl (pc0 := 1) (pc' := 8) rfl (hb hby d12_1) rfl ((if0 _ _).trans (feq (by decide : ¬ ((2 : Int32) = (0 : Int32)))).2) (by decide) (by decide) ?_
      refine XS.iloadN X0.here hx rfl (hb hby d12_8) rfl ?_
      refine XS.iconst X0.here hx rfl (hb hby d12_9) ?_
      refine XS.icmpYes X0.here hx rfl (pc0 := 10) (pc' := 17) rfl (hb hby d12_10) rfl (feq (by decide : ¬ ((2 : Int32) = (1 : Int32)))).2 (by decide) (by decide) ?_
      refine XS.iloadN X0.here hx rfl (hb hby d12_17) rfl ?_
      refine XS.iconst X0.here hx rfl (hb hby d12_18) ?_
      refine XS.icmpNo X0.here hx rfl (hb hby d12_19) rfl (teq (by decide : (2 : Int32) = (2 : Int32))).2 ?_
      refine st1 _ ?_
      exact k
    obtain ⟨fs, hr, hrun, hended, hW, hsame⟩ := X1.leave (v := some (.ref u_BAD_REQUEST)) (fun h => by rw [Bd.returns] at h; cases h)
    refine ⟨_, _, k2 _ ?_, hrun, hended, _, _, rfl, ?_, ⟨_, rfl⟩, hW, hsame.mono (by decide) (by decide)⟩
    · exact retOut X1 hx Bd.returns rfl (Or.inr (Or.inr (Or.inr (Or.inr ⟨rfl, rfl, rfl⟩)))) (hb hby d12_25) hr
    · show Q12 Z (2 : Int32) u_BAD_REQUEST u_CONFLICT u_STORE_ERROR h0 n0 _ T1.heap _
      rw [e1]
      exact ⟨u_BAD_REQUEST, rfl, N0, (Keep.refl h0 []), E_u_BAD_REQUEST, F_u_BAD_REQUEST_ordinal⟩
  · skip
    obtain ⟨T3, X3, e3, st3⟩ := getS2 X0 hx hZ hown (host := "") (Or.inl (wd hw 99 rfl)) Via.refl e0 S_CONFLICT (g := (mkF m 31 #[.val (.int (3 : Int32))] [])) rfl (hb hby d12_31)
    have k4 : ∀ t, Steps p.tables e below (T3.setTop (mkF m 34 #[.val (.int (3 : Int32))] [(.ref u_CONFLICT)])) t → Steps p.tables e below (s₁.setTop (entryFrame m #[(.int (3 : Int32))] 1)) t := by
      intro t k
      refine pre0 t ?_
      refine XS.iloadN X0.here hx rfl (hb hby d12_0) rfl ?_
      refine XS.ifYes X0.here hx rfl (pc0 := 1) (pc' := 8) rfl (hb hby d12_1) rfl ((if0 _ _).trans (feq (by decide : ¬ ((3 : Int32) = (0 : Int32)))).2) (by decide) (by decide) ?_
      refine XS.iloadN X0.here hx rfl (hb hby d12_8) rfl ?_
      refine XS.iconst X0.here hx rfl (hb hby d12_9) ?_
      refine XS.icmpYes X0.here hx rfl (pc0 := 10) (pc' := 17) rfl (hb hby d12_10) rfl (feq (by decide : ¬ ((3 : Int32) = (1 : Int32)))).2 (by decide) (by decide) ?_
      refine XS.iloadN X0.here hx rfl (hb hby d12_17) rfl ?_
      refine XS.iconst X0.here hx rfl (hb hby d12_18) ?_
      refine XS.icmpYes X0.here hx rfl (pc0 := 19) (pc' := 26) rfl (hb hby d12_19) rfl (feq (by decide : ¬ ((3 : Int32) = (2 : Int32)))).2 (by decide) (by decide) ?_
      refine XS.iloadN X0.here hx rfl (hb hby d12_26) rfl ?_
      refine XS.iconst X0.here hx rfl (hb hby d12_27) ?_
      refine XS.icmpNo X0.here hx rfl (hb hby d12_28) rfl (teq (by decide : (3 : Int32) = (3 : Int32))).2 ?_
      refine st3 _ ?_
      exact k
    obtain ⟨fs, hr, hrun, hended, hW, hsame⟩ := X3.leave (v := some (.ref u_CONFLICT)) (fun h => by rw [Bd.returns] at h; cases h)
    refine ⟨_, _, k4 _ ?_, hrun, hended, _, _, rfl, ?_, ⟨_, rfl⟩, hW, hsame.mono (by decide) (by decide)⟩
    · exact retOut X3 hx Bd.returns rfl (Or.inr (Or.inr (Or.inr (Or.inr ⟨rfl, rfl, rfl⟩)))) (hb hby d12_34) hr
    · show Q12 Z (3 : Int32) u_BAD_REQUEST u_CONFLICT u_STORE_ERROR h0 n0 _ T3.heap _
      rw [e3]
      exact ⟨u_CONFLICT, rfl, N0, (Keep.refl h0 []), E_u_CONFLICT, F_u_CONFLICT_ordinal⟩
  · skip
    obtain ⟨T5, X5, e5, st5⟩ := getS2 X0 hx hZ hown (host := "") (Or.inl (wd hw 212 rfl)) Via.refl e0 S_STORE_ERROR (g := (mkF m 35 #[.val (.int (4 : Int32))] [])) rfl (hb hby d12_35)
    have k6 : ∀ t, Steps p.tables e below (T5.setTop (mkF m 38 #[.val (.int (4 : Int32))] [(.ref u_STORE_ERROR)])) t → Steps p.tables e below (s₁.setTop (entryFrame m #[(.int (4 : Int32))] 1)) t := by
      intro t k
      refine pre0 t ?_
      refine XS.iloadN X0.here hx rfl (hb hby d12_0) rfl ?_
      refine XS.ifYes X0.here hx rfl (pc0 := 1) (pc' := 8) rfl (hb hby d12_1) rfl ((if0 _ _).trans (feq (by decide : ¬ ((4 : Int32) = (0 : Int32)))).2) (by decide) (by decide) ?_
      refine XS.iloadN X0.here hx rfl (hb hby d12_8) rfl ?_
      refine XS.iconst X0.here hx rfl (hb hby d12_9) ?_
      refine XS.icmpYes X0.here hx rfl (pc0 := 10) (pc' := 17) rfl (hb hby d12_10) rfl (feq (by decide : ¬ ((4 : Int32) = (1 : Int32)))).2 (by decide) (by decide) ?_
      refine XS.iloadN X0.here hx rfl (hb hby d12_17) rfl ?_
      refine XS.iconst X0.here hx rfl (hb hby d12_18) ?_
      refine XS.icmpYes X0.here hx rfl (pc0 := 19) (pc' := 26) rfl (hb hby d12_19) rfl (feq (by decide : ¬ ((4 : Int32) = (2 : Int32)))).2 (by decide) (by decide) ?_
      refine XS.iloadN X0.here hx rfl (hb hby d12_26) rfl ?_
      refine XS.iconst X0.here hx rfl (hb hby d12_27) ?_
      refine XS.icmpYes X0.here hx rfl (pc0 := 28) (pc' := 35) rfl (hb hby d12_28) rfl (feq (by decide : ¬ ((4 : Int32) = (3 : Int32)))).2 (by decide) (by decide) ?_
      refine st5 _ ?_
      exact k
    obtain ⟨fs, hr, hrun, hended, hW, hsame⟩ := X5.leave (v := some (.ref u_STORE_ERROR)) (fun h => by rw [Bd.returns] at h; cases h)
    refine ⟨_, _, k6 _ ?_, hrun, hended, _, _, rfl, ?_, ⟨_, rfl⟩, hW, hsame.mono (by decide) (by decide)⟩
    · exact retOut X5 hx Bd.returns rfl (Or.inr (Or.inr (Or.inr (Or.inr ⟨rfl, rfl, rfl⟩)))) (hb hby d12_38) hr
    · show Q12 Z (4 : Int32) u_BAD_REQUEST u_CONFLICT u_STORE_ERROR h0 n0 _ T5.heap _
      rw [e5]
      exact ⟨u_STORE_ERROR, rfl, N0, (Keep.refl h0 []), E_u_STORE_ERROR, F_u_STORE_ERROR_ordinal⟩
theorem d13_0 : decode method_4_code 0 = .ok (.iload_n 0, 1) := by decide +kernel
theorem d13_1 : decode method_4_code 1 = .ok (.iconst 2, 1) := by decide +kernel
theorem d13_2 : decode method_4_code 2 = .ok (.if_icmp .lt 12, 3) := by decide +kernel
theorem d13_5 : decode method_4_code 5 = .ok (.iload_n 0, 1) := by decide +kernel
theorem d13_6 : decode method_4_code 6 = .ok (.iconst 5, 1) := by decide +kernel
theorem d13_7 : decode method_4_code 7 = .ok (.if_icmp .ge 7, 3) := by decide +kernel
theorem d13_10 : decode method_4_code 10 = .ok (.iconst 1, 1) := by decide +kernel
theorem d13_11 : decode method_4_code 11 = .ok (.goto 4, 3) := by decide +kernel
theorem d13_14 : decode method_4_code 14 = .ok (.iconst 0, 1) := by decide +kernel
theorem d13_15 : decode method_4_code 15 = .ok (.ireturn, 1) := by decide +kernel
theorem ef_13 (m : MethodId) (p13_0 : Int32) : entryFrame m #[(.int p13_0)] 1 = mkF m 0 #[.val (.int p13_0)] [] := by first | (simp [entryFrame, mkF, argsToLocals, Value.category]; done) | rfl
def own_fails (p13_0 : Int32) : Int32 := (if p13_0 < (2 : Int32) then (0 : Int32) else (if p13_0 < (5 : Int32) then (1 : Int32) else (0 : Int32)))
def Q13 (Z : State) (p13_0 : Int32) (h0 : Heap) (n0 : Nat) (v : Option Value) (h : Heap) (L : List Loc) : Prop := v = some (.int (own_fails p13_0)) ∧ Fr n0 L ∧ h = h0
set_option maxRecDepth 65536 in
set_option maxHeartbeats 40000000 in
theorem rm13 (l : Launch) (Z : State) (a0 : Array Value) (hw : ∀ d ∈ tables_1, d.before a0 Z = true) (ws : List Jvm.Cond) (p13_0 : Int32) (h0 : Heap) (n0 : Nat) (Z0 : n0 ≤ h0.size) :
    MetFree l (⟨"com/example/batchrake/batchrake/DeleteReportHasFailuresPinLaw", "fails", "(I)Z"⟩ : MethodName) (head1 (Jvm.Cond.code (⟨"com/example/batchrake/batchrake/DeleteReportHasFailuresPinLaw", "fails", "(I)Z"⟩ : MethodName) method_4_code 1 (some .boolean) :: ws) ({ frames := 0, cells := 0, slots := 0, locals := 0 } : Room)) (fun a U => a = #[(.int p13_0)] ∧ Z.Warmed39 U.vm ∧ U.heap = h0) (fun _ _ _ _ _ => True) (fun _ U o U' => ∃ v L, o = .returned v ∧ Q13 Z p13_0 h0 n0 v U'.heap L ∧ FrameEnd U o U' L ({ frames := 0, cells := 0, slots := 0, locals := 0 } : Room).cells ({ frames := 0, cells := 0, slots := 0, locals := 0 } : Room).slots) := by
  refine MetFree.of_bodySF (plainFor_of_name pn_6) hisR ?_
  intro p e s m args below meth c s₁ Bd hml0 hP hK
  obtain ⟨rfl, hZ, hh⟩ := hP
  have hx := Bd.exec
  have hby := Bd.bytes
  have hml : c.maxLocals = 1 := hml0
  have hown : s.vm.findClass "com/example/batchrake/batchrake/DeleteReportHasFailuresPinLaw" = some m.cls := findClass_of_methodNamed Bd.named
  have hnm := (name_of_methodNamed Bd.named Bd.method).1
  have X0 : Stand p l e ({ frames := 0, cells := 0, slots := 0, locals := 0 } : Room) s m #[(.int p13_0)] below meth c s₁ [] 0 0 := Stand.of_body Bd
  have e0 : s₁.heap = h0 := by rw [← hh, Bd.state]; rfl
  have N0 := Fr.nil n0
  have pre0 : ∀ t, Steps p.tables e below (s₁.setTop (mkF m 0 #[.val (.int p13_0)] [])) t → Steps p.tables e below (s₁.setTop (entryFrame m #[(.int p13_0)] 1)) t := fun t k => castTop (ef_13 m p13_0) k
  have k1 : ∀ t, Steps p.tables e below (s₁.setTop (mkF m 2 #[.val (.int p13_0)] [(.int (2 : Int32)), (.int p13_0)])) t → Steps p.tables e below (s₁.setTop (entryFrame m #[(.int p13_0)] 1)) t := by
    intro t k
    refine pre0 t ?_
    refine XS.iloadN X0.here hx rfl (hb hby d13_0) rfl ?_
    refine XS.iconst X0.here hx rfl (hb hby d13_1) ?_
    exact k
  by_cases hc2_2 : p13_0 < (2 : Int32)
  · skip
    have k3 : ∀ t, Steps p.tables e below (s₁.setTop (mkF m 15 #[.val (.int p13_0)] [(.int (0 : Int32))])) t → Steps p.tables e below (s₁.setTop (entryFrame m #[(.int p13_0)] 1)) t := by
      intro t k
      refine k1 t ?_
      refine XS.icmpYes X0.here hx rfl (pc0 := 2) (pc' := 14) rfl (hb hby d13_2) rfl (tlt hc2_2).1 (by decide) (by decide) ?_
      refine XS.iconst X0.here hx rfl (hb hby d13_14) ?_
      exact k
    obtain ⟨fs, hr, hrun, hended, hW, hsame⟩ := X0.leave (v := some (.int (0 : Int32))) (fun h => by rw [Bd.returns] at h; cases h)
    refine ⟨_, _, k3 _ ?_, hrun, hended, _, _, rfl, ?_, ⟨_, rfl⟩, hW, hsame.mono (by decide) (by decide)⟩
    · exact retN X0 hx (t := .boolean) Bd.returns (by simp) (hb hby d13_15) hr
    · show Q13 Z p13_0 h0 n0 _ s₁.heap _
      rw [e0]
      exact ⟨congrArg (fun z => some (Value.int z)) (show ((0 : Int32) : Int32) = own_fails p13_0 from by unfold own_fails; rw [if_pos hc2_2]), N0, rfl⟩
  · skip
    have k4 : ∀ t, Steps p.tables e below (s₁.setTop (mkF m 7 #[.val (.int p13_0)] [(.int (5 : Int32)), (.int p13_0)])) t → Steps p.tables e below (s₁.setTop (entryFrame m #[(.int p13_0)] 1)) t := by
      intro t k
      refine k1 t ?_
      refine XS.icmpNo X0.here hx rfl (hb hby d13_2) rfl (flt hc2_2).1 ?_
      refine XS.iloadN X0.here hx rfl (hb hby d13_5) rfl ?_
      refine XS.iconst X0.here hx rfl (hb hby d13_6) ?_
      exact k
    by_cases hc7_5 : p13_0 < (5 : Int32)
    · skip
      have k6 : ∀ t, Steps p.tables e below (s₁.setTop (mkF m 15 #[.val (.int p13_0)] [(.int (1 : Int32))])) t → Steps p.tables e below (s₁.setTop (entryFrame m #[(.int p13_0)] 1)) t := by
        intro t k
        refine k4 t ?_
        refine XS.icmpNo X0.here hx rfl (hb hby d13_7) rfl (tlt hc7_5).2.1 ?_
        refine XS.iconst X0.here hx rfl (hb hby d13_10) ?_
        refine XS.goto X0.here hx rfl (pc0 := 11) (pc' := 15) rfl (hb hby d13_11) (by decide) (by decide) ?_
        exact k
      obtain ⟨fs, hr, hrun, hended, hW, hsame⟩ := X0.leave (v := some (.int (1 : Int32))) (fun h => by rw [Bd.returns] at h; cases h)
      refine ⟨_, _, k6 _ ?_, hrun, hended, _, _, rfl, ?_, ⟨_, rfl⟩, hW, hsame.mono (by decide) (by decide)⟩
      · exact retN X0 hx (t := .boolean) Bd.returns (by simp) (hb hby d13_15) hr
      · show Q13 Z p13_0 h0 n0 _ s₁.heap _
        rw [e0]
        exact ⟨congrArg (fun z => some (Value.int z)) (show ((1 : Int32) : Int32) = own_fails p13_0 from by unfold own_fails; rw [if_neg hc2_2, if_pos hc7_5]), N0, rfl⟩
    · skip
      have k7 : ∀ t, Steps p.tables e below (s₁.setTop (mkF m 15 #[.val (.int p13_0)] [(.int (0 : Int32))])) t → Steps p.tables e below (s₁.setTop (entryFrame m #[(.int p13_0)] 1)) t := by
        intro t k
        refine k4 t ?_
        refine XS.icmpYes X0.here hx rfl (pc0 := 7) (pc' := 14) rfl (hb hby d13_7) rfl (flt hc7_5).2.1 (by decide) (by decide) ?_
        refine XS.iconst X0.here hx rfl (hb hby d13_14) ?_
        exact k
      obtain ⟨fs, hr, hrun, hended, hW, hsame⟩ := X0.leave (v := some (.int (0 : Int32))) (fun h => by rw [Bd.returns] at h; cases h)
      refine ⟨_, _, k7 _ ?_, hrun, hended, _, _, rfl, ?_, ⟨_, rfl⟩, hW, hsame.mono (by decide) (by decide)⟩
      · exact retN X0 hx (t := .boolean) Bd.returns (by simp) (hb hby d13_15) hr
      · show Q13 Z p13_0 h0 n0 _ s₁.heap _
        rw [e0]
        exact ⟨congrArg (fun z => some (Value.int z)) (show ((0 : Int32) : Int32) = own_fails p13_0 from by unfold own_fails; rw [if_neg hc2_2, if_neg hc7_5]), N0, rfl⟩
theorem own_f1 (z : Int32) (h : ¬ own_fails z = (0 : Int32)) : (1 : Int32) = own_fails z := by
  unfold own_fails at *
  repeat' split
  all_goals first | rfl | (exfalso; apply h; simp [*])
theorem pn_7 : plainName "java/lang/Enum" = true := by first | (simp [plainName, overriddenIn]; done) | decide +kernel
theorem d14_0 : decode jdk_37_method_2_code 0 = .ok (.aload_n 0, 1) := by decide +kernel
theorem d14_1 : decode jdk_37_method_2_code 1 = .ok (.getfield 7, 3) := by decide +kernel
theorem d14_4 : decode jdk_37_method_2_code 4 = .ok (.ireturn, 1) := by decide +kernel
theorem ef_14 (m : MethodId) (a14_0 : Addr) : entryFrame m #[(.ref a14_0)] 1 = mkF m 0 #[.val (.ref a14_0)] [] := by first | (simp [entryFrame, mkF, argsToLocals, Value.category]; done) | rfl
def Q14 (Z : State) (a14_0 : Addr) (od : Int32) (h0 : Heap) (n0 : Nat) (v : Option Value) (h : Heap) (L : List Loc) : Prop := v = some (.int od) ∧ Fr n0 L ∧ h = h0
set_option maxRecDepth 65536 in
set_option maxHeartbeats 40000000 in
theorem rm14 (l : Launch) (Z : State) (a0 : Array Value) (hw : ∀ d ∈ tables_1, d.before a0 Z = true) (ws : List Jvm.Cond) (a14_0 : Addr) (od : Int32) (h0 : Heap) (n0 : Nat) (Z0 : n0 ≤ h0.size) (Fo : Fld Z h0 a14_0 "java/lang/Enum" "ordinal" "I" (.int od)) :
    MetFree l (⟨"java/lang/Enum", "ordinal", "()I"⟩ : MethodName) (head1 (Jvm.Cond.code (⟨"java/lang/Enum", "ordinal", "()I"⟩ : MethodName) jdk_37_method_2_code 1 (some .int) :: ws) ({ frames := 0, cells := 0, slots := 0, locals := 0 } : Room)) (fun a U => a = #[(.ref a14_0)] ∧ Z.Warmed39 U.vm ∧ U.heap = h0) (fun _ _ _ _ _ => True) (fun _ U o U' => ∃ v L, o = .returned v ∧ Q14 Z a14_0 od h0 n0 v U'.heap L ∧ FrameEnd U o U' L ({ frames := 0, cells := 0, slots := 0, locals := 0 } : Room).cells ({ frames := 0, cells := 0, slots := 0, locals := 0 } : Room).slots) := by
  refine MetFree.of_bodySF (plainFor_of_name pn_7) hisR ?_
  intro p e s m args below meth c s₁ Bd hml0 hP hK
  obtain ⟨rfl, hZ, hh⟩ := hP
  have hx := Bd.exec
  have hby := Bd.bytes
  have hml : c.maxLocals = 1 := hml0
  have hown : s.vm.findClass "java/lang/Enum" = some m.cls := findClass_of_methodNamed Bd.named
  have hnm := (name_of_methodNamed Bd.named Bd.method).1
  have X0 : Stand p l e ({ frames := 0, cells := 0, slots := 0, locals := 0 } : Room) s m #[(.ref a14_0)] below meth c s₁ [] 0 0 := Stand.of_body Bd
  have e0 : s₁.heap = h0 := by rw [← hh, Bd.state]; rfl
  have N0 := Fr.nil n0
  have pre0 : ∀ t, Steps p.tables e below (s₁.setTop (mkF m 0 #[.val (.ref a14_0)] [])) t → Steps p.tables e below (s₁.setTop (entryFrame m #[(.ref a14_0)] 1)) t := fun t k => castTop (ef_14 m a14_0) k
  obtain ⟨T1, X1, e1, st1⟩ := getF X0 hx hZ hown (host := "") (Or.inl (wd hw 95 rfl)) Via.refl e0 Fo (g := (mkF m 1 #[.val (.ref a14_0)] [(.ref a14_0)])) rfl rfl (hb hby d14_1)
  have k2 : ∀ t, Steps p.tables e below (T1.setTop (mkF m 4 #[.val (.ref a14_0)] [(.int od)])) t → Steps p.tables e below (s₁.setTop (entryFrame m #[(.ref a14_0)] 1)) t := by
    intro t k
    refine pre0 t ?_
    refine XS.aloadN X0.here hx rfl (hb hby d14_0) rfl rfl ?_
    refine st1 _ ?_
    exact k
  obtain ⟨fs, hr, hrun, hended, hW, hsame⟩ := X1.leave (v := some (.int od)) (fun h => by rw [Bd.returns] at h; cases h)
  refine ⟨_, _, k2 _ ?_, hrun, hended, _, _, rfl, ?_, ⟨_, rfl⟩, hW, hsame.mono (by decide) (by decide)⟩
  · exact retI X1 hx Bd.returns (hb hby d14_4) hr
  · show Q14 Z a14_0 od h0 n0 _ T1.heap _
    rw [e1]
    exact ⟨rfl, N0, rfl⟩
theorem pn_8 : plainName "com/example/batchrake/batchrake/DeleteReport$Failure" = true := by first | (simp [plainName, overriddenIn]; done) | decide +kernel
theorem d15_0 : decode prog_3_method_1_code 0 = .ok (.aload_n 0, 1) := by decide +kernel
theorem d15_1 : decode prog_3_method_1_code 1 = .ok (.invokespecial 1, 3) := by decide +kernel
theorem d15_4 : decode prog_3_method_1_code 4 = .ok (.aload_n 0, 1) := by decide +kernel
theorem d15_5 : decode prog_3_method_1_code 5 = .ok (.aload_n 1, 1) := by decide +kernel
theorem d15_6 : decode prog_3_method_1_code 6 = .ok (.putfield 7, 3) := by decide +kernel
theorem d15_9 : decode prog_3_method_1_code 9 = .ok (.aload_n 0, 1) := by decide +kernel
theorem d15_10 : decode prog_3_method_1_code 10 = .ok (.aload_n 2, 1) := by decide +kernel
theorem d15_11 : decode prog_3_method_1_code 11 = .ok (.putfield 13, 3) := by decide +kernel
theorem d15_14 : decode prog_3_method_1_code 14 = .ok (.return_, 1) := by decide +kernel
theorem ef_15 (m : MethodId) (a15_0 : Addr) (a15_1 : Addr) (a15_2 : Addr) : entryFrame m #[(.ref a15_0), (.ref a15_1), (.ref a15_2)] 3 = mkF m 0 #[.val (.ref a15_0), .val (.ref a15_1), .val (.ref a15_2)] [] := by first | (simp [entryFrame, mkF, argsToLocals, Value.category]; done) | rfl
def Q15 (Z : State) (a15_0 : Addr) (a15_1 : Addr) (a15_2 : Addr) (h0 : Heap) (n0 : Nat) (v : Option Value) (h : Heap) (L : List Loc) : Prop := v = none ∧ Fr n0 L ∧ Keep h0 h [a15_0] ∧ Exa Z h a15_0 "com/example/batchrake/batchrake/DeleteReport$Failure"
set_option maxRecDepth 65536 in
set_option maxHeartbeats 40000000 in
theorem rm15 (l : Launch) (Z : State) (a0 : Array Value) (hw : ∀ d ∈ tables_1, d.before a0 Z = true) (ws : List Jvm.Cond) (a15_0 : Addr) (a15_1 : Addr) (a15_2 : Addr) (h0 : Heap) (n0 : Nat) (Z0 : n0 ≤ h0.size) (Ea : Exa Z h0 a15_0 "com/example/batchrake/batchrake/DeleteReport$Failure") (Fs1 : Fld Z h0 a15_0 "com/example/batchrake/batchrake/DeleteReport$Failure" "name" "Ljava/lang/String;" .null) (Fs2 : Fld Z h0 a15_0 "com/example/batchrake/batchrake/DeleteReport$Failure" "outcome" "Lcom/example/batchrake/batchrake/Outcome;" .null) (g_a15_0 : n0 ≤ a15_0) :
    MetFree l (⟨"com/example/batchrake/batchrake/DeleteReport$Failure", "<init>", "(Ljava/lang/String;Lcom/example/batchrake/batchrake/Outcome;)V"⟩ : MethodName) (head1 (Jvm.Cond.code (⟨"com/example/batchrake/batchrake/DeleteReport$Failure", "<init>", "(Ljava/lang/String;Lcom/example/batchrake/batchrake/Outcome;)V"⟩ : MethodName) prog_3_method_1_code 3 none :: ws) ({ frames := 1, cells := 0, slots := 0, locals := 12 } : Room)) (fun a U => a = #[(.ref a15_0), (.ref a15_1), (.ref a15_2)] ∧ Z.Warmed39 U.vm ∧ U.heap = h0) (fun _ _ _ _ _ => True) (fun _ U o U' => ∃ v L, o = .returned v ∧ Q15 Z a15_0 a15_1 a15_2 h0 n0 v U'.heap L ∧ FrameEnd U o U' L ({ frames := 1, cells := 0, slots := 0, locals := 12 } : Room).cells ({ frames := 1, cells := 0, slots := 0, locals := 12 } : Room).slots) := by
  refine MetFree.of_bodySF (plainFor_of_name pn_8) hisR ?_
  intro p e s m args below meth c s₁ Bd hml0 hP hK
  obtain ⟨rfl, hZ, hh⟩ := hP
  have hx := Bd.exec
  have hby := Bd.bytes
  have hml : c.maxLocals = 3 := hml0
  have hown : s.vm.findClass "com/example/batchrake/batchrake/DeleteReport$Failure" = some m.cls := findClass_of_methodNamed Bd.named
  have hnm := (name_of_methodNamed Bd.named Bd.method).1
  have X0 : Stand p l e ({ frames := 1, cells := 0, slots := 0, locals := 12 } : Room) s m #[(.ref a15_0), (.ref a15_1), (.ref a15_2)] below meth c s₁ [] 0 0 := Stand.of_body Bd
  have e0 : s₁.heap = h0 := by rw [← hh, Bd.state]; rfl
  have N0 := Fr.nil n0
  have pre0 : ∀ t, Steps p.tables e below (s₁.setTop (mkF m 0 #[.val (.ref a15_0), .val (.ref a15_1), .val (.ref a15_2)] [])) t → Steps p.tables e below (s₁.setTop (entryFrame m #[(.ref a15_0), (.ref a15_1), (.ref a15_2)] 3)) t := fun t k => castTop (ef_15 m a15_0 a15_1 a15_2) k
  obtain ⟨T1, X1, e1, st1⟩ := initO X0 hx hZ hown (wd hw 107 rfl) (wd hw 19 rfl) (wd hw 20 rfl) e0 (g := (mkF m 1 #[.val (.ref a15_0), .val (.ref a15_1), .val (.ref a15_2)] [(.ref a15_0)])) rfl (by rw [hml]; rfl) rfl (hb hby d15_1) (by decide) (W := 0) (by show 2 * 0 + _ ≤ _; exact Nat.le_of_eq rfl) (by decide)
  obtain ⟨T2, h2, X2, e2, W2, st2⟩ := putF X1 hx hZ hown (host := "") (Or.inl (wd hw 108 rfl)) Via.refl e1 Fs1 Ea (Or.inr ⟨(wd hw 109 rfl), rfl, hnm⟩) (wd hw 102 rfl) (ty := (.object "java/lang/String")) (by decide) rfl rfl (g := (mkF m 6 #[.val (.ref a15_0), .val (.ref a15_1), .val (.ref a15_2)] [(.ref a15_1), (.ref a15_0)])) rfl rfl (hb hby d15_6)
  have Fw2 : Fld Z h2 a15_0 "com/example/batchrake/batchrake/DeleteReport$Failure" "name" "Ljava/lang/String;" (.ref a15_1) := Fs1.same W2
  have F3 := Ea.wr W2
  have F5 := Fs2.other W2 (Or.inr (slot_ne (Or.inr (wd hw 111 rfl)) (Or.inr (wd hw 109 rfl)) (by decide) (t := (.object "com/example/batchrake/batchrake/Outcome")) (t' := (.object "java/lang/String")) (by decide) (by decide)))
  have N2 := Fr.snoc X2 N0 g_a15_0
  have K2 : Keep h0 h2 [a15_0] := (Keep.refl h0 [a15_0]).wr W2 (Or.inl (List.mem_of_getElem? (i := 0) rfl))
  have Zs2 : n0 ≤ h2.size := by rw [W2.size]; exact Z0
  obtain ⟨T6, h6, X6, e6, W6, st6⟩ := putF X2 hx hZ hown (host := "") (Or.inl (wd hw 110 rfl)) Via.refl e2 F5 F3 (Or.inr ⟨(wd hw 111 rfl), rfl, hnm⟩) (wd hw 102 rfl) (ty := (.object "com/example/batchrake/batchrake/Outcome")) (by decide) rfl rfl (g := (mkF m 11 #[.val (.ref a15_0), .val (.ref a15_1), .val (.ref a15_2)] [(.ref a15_2), (.ref a15_0)])) rfl rfl (hb hby d15_11)
  have Fw6 : Fld Z h6 a15_0 "com/example/batchrake/batchrake/DeleteReport$Failure" "outcome" "Lcom/example/batchrake/batchrake/Outcome;" (.ref a15_2) := F5.same W6
  have F7 := F3.wr W6
  have F9 := Fw2.other W6 (Or.inr (slot_ne (Or.inr (wd hw 109 rfl)) (Or.inr (wd hw 111 rfl)) (by decide) (t := (.object "java/lang/String")) (t' := (.object "com/example/batchrake/batchrake/Outcome")) (by decide) (by decide)))
  have N6 := Fr.snoc X6 N2 g_a15_0
  have K6 : Keep h0 h6 [a15_0] := K2.wr W6 (Or.inl (List.mem_of_getElem? (i := 0) rfl))
  have Zs6 : n0 ≤ h6.size := by rw [W6.size]; exact Zs2
  have k10 : ∀ t, Steps p.tables e below (T6.setTop (mkF m 14 #[.val (.ref a15_0), .val (.ref a15_1), .val (.ref a15_2)] [])) t → Steps p.tables e below (s₁.setTop (entryFrame m #[(.ref a15_0), (.ref a15_1), (.ref a15_2)] 3)) t := by
    intro t k
    refine pre0 t ?_
    refine XS.aloadN X0.here hx rfl (hb hby d15_0) rfl rfl ?_
    refine st1 _ ?_
    refine XS.aloadN X1.here hx rfl (hb hby d15_4) rfl rfl ?_
    refine XS.aloadN X1.here hx rfl (hb hby d15_5) rfl rfl ?_
    refine st2 _ ?_
    refine XS.aloadN X2.here hx rfl (hb hby d15_9) rfl rfl ?_
    refine XS.aloadN X2.here hx rfl (hb hby d15_10) rfl rfl ?_
    refine st6 _ ?_
    exact k
  obtain ⟨fs, hr, hrun, hended, hW, hsame⟩ := X6.leave (v := none) (fun _ => rfl)
  refine ⟨_, _, k10 _ ?_, hrun, hended, _, _, rfl, ?_, ⟨_, rfl⟩, hW, hsame.mono (by decide) (by decide)⟩
  · exact X6.returnOut hx Bd.returns (hb hby d15_14) hr
  · show Q15 Z a15_0 a15_1 a15_2 h0 n0 _ T6.heap _
    rw [e6]
    exact ⟨rfl, N6, K6, F7⟩
theorem d16_0 : decode jdk_29_method_65_code 0 = .ok (.iload_n 0, 1) := by decide +kernel
theorem d16_1 : decode jdk_29_method_65_code 1 = .ok (.iload_n 1, 1) := by decide +kernel
theorem d16_2 : decode jdk_29_method_65_code 2 = .ok (.if_icmp .lt 7, 3) := by decide +kernel
theorem d16_5 : decode jdk_29_method_65_code 5 = .ok (.iload_n 0, 1) := by decide +kernel
theorem d16_6 : decode jdk_29_method_65_code 6 = .ok (.goto 4, 3) := by decide +kernel
theorem d16_10 : decode jdk_29_method_65_code 10 = .ok (.ireturn, 1) := by decide +kernel
theorem ef_16 (m : MethodId)  : entryFrame m #[(.int (10 : Int32)), (.int (1 : Int32))] 2 = mkF m 0 #[.val (.int (10 : Int32)), .val (.int (1 : Int32))] [] := by first | (simp [entryFrame, mkF, argsToLocals, Value.category]; done) | rfl
def Q16 (Z : State)  (h0 : Heap) (n0 : Nat) (v : Option Value) (h : Heap) (L : List Loc) : Prop := v = some (.int (10 : Int32)) ∧ Fr n0 L ∧ h = h0
set_option maxRecDepth 65536 in
set_option maxHeartbeats 40000000 in
theorem rm16 (l : Launch) (Z : State) (a0 : Array Value) (hw : ∀ d ∈ tables_1, d.before a0 Z = true) (ws : List Jvm.Cond)  (h0 : Heap) (n0 : Nat) (Z0 : n0 ≤ h0.size) :
    MetFree l (⟨"java/lang/Math", "max", "(II)I"⟩ : MethodName) (head1 (Jvm.Cond.code (⟨"java/lang/Math", "max", "(II)I"⟩ : MethodName) jdk_29_method_65_code 2 (some .int) :: ws) ({ frames := 0, cells := 0, slots := 0, locals := 0 } : Room)) (fun a U => a = #[(.int (10 : Int32)), (.int (1 : Int32))] ∧ Z.Warmed39 U.vm ∧ U.heap = h0) (fun _ _ _ _ _ => True) (fun _ U o U' => ∃ v L, o = .returned v ∧ Q16 Z  h0 n0 v U'.heap L ∧ FrameEnd U o U' L ({ frames := 0, cells := 0, slots := 0, locals := 0 } : Room).cells ({ frames := 0, cells := 0, slots := 0, locals := 0 } : Room).slots) := by
  refine MetFree.of_bodySF (Jvm.Free.JP.mathPlain rfl (by decide +kernel)) hisR ?_
  intro p e s m args below meth c s₁ Bd hml0 hP hK
  obtain ⟨rfl, hZ, hh⟩ := hP
  have hx := Bd.exec
  have hby := Bd.bytes
  have hml : c.maxLocals = 2 := hml0
  have hown : s.vm.findClass "java/lang/Math" = some m.cls := findClass_of_methodNamed Bd.named
  have hnm := (name_of_methodNamed Bd.named Bd.method).1
  have X0 : Stand p l e ({ frames := 0, cells := 0, slots := 0, locals := 0 } : Room) s m #[(.int (10 : Int32)), (.int (1 : Int32))] below meth c s₁ [] 0 0 := Stand.of_body Bd
  have e0 : s₁.heap = h0 := by rw [← hh, Bd.state]; rfl
  have N0 := Fr.nil n0
  have pre0 : ∀ t, Steps p.tables e below (s₁.setTop (mkF m 0 #[.val (.int (10 : Int32)), .val (.int (1 : Int32))] [])) t → Steps p.tables e below (s₁.setTop (entryFrame m #[(.int (10 : Int32)), (.int (1 : Int32))] 2)) t := fun t k => castTop (ef_16 m ) k
  have k1 : ∀ t, Steps p.tables e below (s₁.setTop (mkF m 10 #[.val (.int (10 : Int32)), .val (.int (1 : Int32))] [(.int (10 : Int32))])) t → Steps p.tables e below (s₁.setTop (entryFrame m #[(.int (10 : Int32)), (.int (1 : Int32))] 2)) t := by
    intro t k
    refine pre0 t ?_
    refine XS.iloadN X0.here hx rfl (hb hby d16_0) rfl ?_
    refine XS.iloadN X0.here hx rfl (hb hby d16_1) rfl ?_
    refine XS.icmpNo X0.here hx rfl (hb hby d16_2) rfl (flt (by decide : ¬ ((10 : Int32) < (1 : Int32)))).1 ?_
    refine XS.iloadN X0.here hx rfl (hb hby d16_5) rfl ?_
    refine XS.goto X0.here hx rfl (pc0 := 6) (pc' := 10) rfl (hb hby d16_6) (by decide) (by decide) ?_
    exact k
  obtain ⟨fs, hr, hrun, hended, hW, hsame⟩ := X0.leave (v := some (.int (10 : Int32))) (fun h => by rw [Bd.returns] at h; cases h)
  refine ⟨_, _, k1 _ ?_, hrun, hended, _, _, rfl, ?_, ⟨_, rfl⟩, hW, hsame.mono (by decide) (by decide)⟩
  · exact retI X0 hx Bd.returns (hb hby d16_10) hr
  · show Q16 Z  h0 n0 _ s₁.heap _
    rw [e0]
    exact ⟨rfl, N0, rfl⟩
theorem d17_0 : decode jdk_29_method_69_code 0 = .ok (.iload_n 0, 1) := by decide +kernel
theorem d17_1 : decode jdk_29_method_69_code 1 = .ok (.iload_n 1, 1) := by decide +kernel
theorem d17_2 : decode jdk_29_method_69_code 2 = .ok (.if_icmp .gt 7, 3) := by decide +kernel
theorem d17_5 : decode jdk_29_method_69_code 5 = .ok (.iload_n 0, 1) := by decide +kernel
theorem d17_6 : decode jdk_29_method_69_code 6 = .ok (.goto 4, 3) := by decide +kernel
theorem d17_10 : decode jdk_29_method_69_code 10 = .ok (.ireturn, 1) := by decide +kernel
theorem ef_17 (m : MethodId)  : entryFrame m #[(.int (0 : Int32)), (.int (0 : Int32))] 2 = mkF m 0 #[.val (.int (0 : Int32)), .val (.int (0 : Int32))] [] := by first | (simp [entryFrame, mkF, argsToLocals, Value.category]; done) | rfl
def Q17 (Z : State)  (h0 : Heap) (n0 : Nat) (v : Option Value) (h : Heap) (L : List Loc) : Prop := v = some (.int (0 : Int32)) ∧ Fr n0 L ∧ h = h0
set_option maxRecDepth 65536 in
set_option maxHeartbeats 40000000 in
theorem rm17 (l : Launch) (Z : State) (a0 : Array Value) (hw : ∀ d ∈ tables_1, d.before a0 Z = true) (ws : List Jvm.Cond)  (h0 : Heap) (n0 : Nat) (Z0 : n0 ≤ h0.size) :
    MetFree l (⟨"java/lang/Math", "min", "(II)I"⟩ : MethodName) (head1 (Jvm.Cond.code (⟨"java/lang/Math", "min", "(II)I"⟩ : MethodName) jdk_29_method_69_code 2 (some .int) :: ws) ({ frames := 0, cells := 0, slots := 0, locals := 0 } : Room)) (fun a U => a = #[(.int (0 : Int32)), (.int (0 : Int32))] ∧ Z.Warmed39 U.vm ∧ U.heap = h0) (fun _ _ _ _ _ => True) (fun _ U o U' => ∃ v L, o = .returned v ∧ Q17 Z  h0 n0 v U'.heap L ∧ FrameEnd U o U' L ({ frames := 0, cells := 0, slots := 0, locals := 0 } : Room).cells ({ frames := 0, cells := 0, slots := 0, locals := 0 } : Room).slots) := by
  refine MetFree.of_bodySF (Jvm.Free.JP.mathPlain rfl (by decide +kernel)) hisR ?_
  intro p e s m args below meth c s₁ Bd hml0 hP hK
  obtain ⟨rfl, hZ, hh⟩ := hP
  have hx := Bd.exec
  have hby := Bd.bytes
  have hml : c.maxLocals = 2 := hml0
  have hown : s.vm.findClass "java/lang/Math" = some m.cls := findClass_of_methodNamed Bd.named
  have hnm := (name_of_methodNamed Bd.named Bd.method).1
  have X0 : Stand p l e ({ frames := 0, cells := 0, slots := 0, locals := 0 } : Room) s m #[(.int (0 : Int32)), (.int (0 : Int32))] below meth c s₁ [] 0 0 := Stand.of_body Bd
  have e0 : s₁.heap = h0 := by rw [← hh, Bd.state]; rfl
  have N0 := Fr.nil n0
  have pre0 : ∀ t, Steps p.tables e below (s₁.setTop (mkF m 0 #[.val (.int (0 : Int32)), .val (.int (0 : Int32))] [])) t → Steps p.tables e below (s₁.setTop (entryFrame m #[(.int (0 : Int32)), (.int (0 : Int32))] 2)) t := fun t k => castTop (ef_17 m ) k
  have k1 : ∀ t, Steps p.tables e below (s₁.setTop (mkF m 10 #[.val (.int (0 : Int32)), .val (.int (0 : Int32))] [(.int (0 : Int32))])) t → Steps p.tables e below (s₁.setTop (entryFrame m #[(.int (0 : Int32)), (.int (0 : Int32))] 2)) t := by
    intro t k
    refine pre0 t ?_
    refine XS.iloadN X0.here hx rfl (hb hby d17_0) rfl ?_
    refine XS.iloadN X0.here hx rfl (hb hby d17_1) rfl ?_
    refine XS.icmpNo X0.here hx rfl (hb hby d17_2) rfl (flt (by decide : ¬ ((0 : Int32) < (0 : Int32)))).2.2.1 ?_
    refine XS.iloadN X0.here hx rfl (hb hby d17_5) rfl ?_
    refine XS.goto X0.here hx rfl (pc0 := 6) (pc' := 10) rfl (hb hby d17_6) (by decide) (by decide) ?_
    exact k
  obtain ⟨fs, hr, hrun, hended, hW, hsame⟩ := X0.leave (v := some (.int (0 : Int32))) (fun h => by rw [Bd.returns] at h; cases h)
  refine ⟨_, _, k1 _ ?_, hrun, hended, _, _, rfl, ?_, ⟨_, rfl⟩, hW, hsame.mono (by decide) (by decide)⟩
  · exact retI X0 hx Bd.returns (hb hby d17_10) hr
  · show Q17 Z  h0 n0 _ s₁.heap _
    rw [e0]
    exact ⟨rfl, N0, rfl⟩
theorem d18_0 : decode jdk_29_method_69_code 0 = .ok (.iload_n 0, 1) := by decide +kernel
theorem d18_1 : decode jdk_29_method_69_code 1 = .ok (.iload_n 1, 1) := by decide +kernel
theorem d18_2 : decode jdk_29_method_69_code 2 = .ok (.if_icmp .gt 7, 3) := by decide +kernel
theorem d18_9 : decode jdk_29_method_69_code 9 = .ok (.iload_n 1, 1) := by decide +kernel
theorem d18_10 : decode jdk_29_method_69_code 10 = .ok (.ireturn, 1) := by decide +kernel
theorem ef_18 (m : MethodId)  : entryFrame m #[(.int (10 : Int32)), (.int (1 : Int32))] 2 = mkF m 0 #[.val (.int (10 : Int32)), .val (.int (1 : Int32))] [] := by first | (simp [entryFrame, mkF, argsToLocals, Value.category]; done) | rfl
def Q18 (Z : State)  (h0 : Heap) (n0 : Nat) (v : Option Value) (h : Heap) (L : List Loc) : Prop := v = some (.int (1 : Int32)) ∧ Fr n0 L ∧ h = h0
set_option maxRecDepth 65536 in
set_option maxHeartbeats 40000000 in
theorem rm18 (l : Launch) (Z : State) (a0 : Array Value) (hw : ∀ d ∈ tables_1, d.before a0 Z = true) (ws : List Jvm.Cond)  (h0 : Heap) (n0 : Nat) (Z0 : n0 ≤ h0.size) :
    MetFree l (⟨"java/lang/Math", "min", "(II)I"⟩ : MethodName) (head1 (Jvm.Cond.code (⟨"java/lang/Math", "min", "(II)I"⟩ : MethodName) jdk_29_method_69_code 2 (some .int) :: ws) ({ frames := 0, cells := 0, slots := 0, locals := 0 } : Room)) (fun a U => a = #[(.int (10 : Int32)), (.int (1 : Int32))] ∧ Z.Warmed39 U.vm ∧ U.heap = h0) (fun _ _ _ _ _ => True) (fun _ U o U' => ∃ v L, o = .returned v ∧ Q18 Z  h0 n0 v U'.heap L ∧ FrameEnd U o U' L ({ frames := 0, cells := 0, slots := 0, locals := 0 } : Room).cells ({ frames := 0, cells := 0, slots := 0, locals := 0 } : Room).slots) := by
  refine MetFree.of_bodySF (Jvm.Free.JP.mathPlain rfl (by decide +kernel)) hisR ?_
  intro p e s m args below meth c s₁ Bd hml0 hP hK
  obtain ⟨rfl, hZ, hh⟩ := hP
  have hx := Bd.exec
  have hby := Bd.bytes
  have hml : c.maxLocals = 2 := hml0
  have hown : s.vm.findClass "java/lang/Math" = some m.cls := findClass_of_methodNamed Bd.named
  have hnm := (name_of_methodNamed Bd.named Bd.method).1
  have X0 : Stand p l e ({ frames := 0, cells := 0, slots := 0, locals := 0 } : Room) s m #[(.int (10 : Int32)), (.int (1 : Int32))] below meth c s₁ [] 0 0 := Stand.of_body Bd
  have e0 : s₁.heap = h0 := by rw [← hh, Bd.state]; rfl
  have N0 := Fr.nil n0
  have pre0 : ∀ t, Steps p.tables e below (s₁.setTop (mkF m 0 #[.val (.int (10 : Int32)), .val (.int (1 : Int32))] [])) t → Steps p.tables e below (s₁.setTop (entryFrame m #[(.int (10 : Int32)), (.int (1 : Int32))] 2)) t := fun t k => castTop (ef_18 m ) k
  have k1 : ∀ t, Steps p.tables e below (s₁.setTop (mkF m 10 #[.val (.int (10 : Int32)), .val (.int (1 : Int32))] [(.int (1 : Int32))])) t → Steps p.tables e below (s₁.setTop (entryFrame m #[(.int (10 : Int32)), (.int (1 : Int32))] 2)) t := by
    intro t k
    refine pre0 t ?_
    refine XS.iloadN X0.here hx rfl (hb hby d18_0) rfl ?_
    refine XS.iloadN X0.here hx rfl (hb hby d18_1) rfl ?_
    refine XS.icmpYes X0.here hx rfl (pc0 := 2) (pc' := 9) rfl (hb hby d18_2) rfl (tlt (by decide : (1 : Int32) < (10 : Int32))).2.2.1 (by decide) (by decide) ?_
    refine XS.iloadN X0.here hx rfl (hb hby d18_9) rfl ?_
    exact k
  obtain ⟨fs, hr, hrun, hended, hW, hsame⟩ := X0.leave (v := some (.int (1 : Int32))) (fun h => by rw [Bd.returns] at h; cases h)
  refine ⟨_, _, k1 _ ?_, hrun, hended, _, _, rfl, ?_, ⟨_, rfl⟩, hW, hsame.mono (by decide) (by decide)⟩
  · exact retI X0 hx Bd.returns (hb hby d18_10) hr
  · show Q18 Z  h0 n0 _ s₁.heap _
    rw [e0]
    exact ⟨rfl, N0, rfl⟩
theorem pd_6 : parseMethodDescriptor "(II)I" = some ⟨[.int, .int], some .int⟩ := by decide +kernel
theorem d19_0 : decode jdk_38_method_6_code 0 = .ok (.aload_n 0, 1) := by decide +kernel
theorem d19_1 : decode jdk_38_method_6_code 1 = .ok (.getfield 9, 3) := by decide +kernel
theorem d19_4 : decode jdk_38_method_6_code 4 = .ok (.arraylength, 1) := by decide +kernel
theorem d19_5 : decode jdk_38_method_6_code 5 = .ok (.istore_n 2, 1) := by decide +kernel
theorem d19_6 : decode jdk_38_method_6_code 6 = .ok (.iload_n 2, 1) := by decide +kernel
theorem d19_7 : decode jdk_38_method_6_code 7 = .ok (.ifCond .gt 13, 3) := by decide +kernel
theorem d19_10 : decode jdk_38_method_6_code 10 = .ok (.aload_n 0, 1) := by decide +kernel
theorem d19_11 : decode jdk_38_method_6_code 11 = .ok (.getfield 9, 3) := by decide +kernel
theorem d19_14 : decode jdk_38_method_6_code 14 = .ok (.getstatic 39, 3) := by decide +kernel
theorem d19_17 : decode jdk_38_method_6_code 17 = .ok (.if_acmp .eq 28, 3) := by decide +kernel
theorem d19_45 : decode jdk_38_method_6_code 45 = .ok (.aload_n 0, 1) := by decide +kernel
theorem d19_46 : decode jdk_38_method_6_code 46 = .ok (.bipush 10, 2) := by decide +kernel
theorem d19_48 : decode jdk_38_method_6_code 48 = .ok (.iload_n 1, 1) := by decide +kernel
theorem d19_49 : decode jdk_38_method_6_code 49 = .ok (.invokestatic 79, 3) := by decide +kernel
theorem d19_52 : decode jdk_38_method_6_code 52 = .ok (.anewarray 7, 3) := by decide +kernel
theorem d19_55 : decode jdk_38_method_6_code 55 = .ok (.dup_x1, 1) := by decide +kernel
theorem d19_56 : decode jdk_38_method_6_code 56 = .ok (.putfield 9, 3) := by decide +kernel
theorem d19_59 : decode jdk_38_method_6_code 59 = .ok (.areturn, 1) := by decide +kernel
theorem ef_19 (m : MethodId) (a19_0 : Addr) : entryFrame m #[(.ref a19_0), (.int (1 : Int32))] 4 = mkF m 0 #[.val (.ref a19_0), .val (.int (1 : Int32)), .unset, .unset] [] := by first | (simp [entryFrame, mkF, argsToLocals, Value.category]; done) | rfl
def Q19 (Z : State) (a19_0 : Addr) (mc : Int32) (u_DEFAULTCAPACITY_EMPTY_ELEMENTDATA : Addr) (cl_u_DEFAULTCAPACITY_EMPTY_ELEMENTDATA : Cell) (h0 : Heap) (n0 : Nat) (v : Option Value) (h : Heap) (L : List Loc) : Prop := ∃ ed : Addr, ∃ ke : ClassId, v = some (.ref ed) ∧ Fr n0 L ∧ Keep h0 h [a19_0] ∧ n0 ≤ ed ∧ h0.size ≤ ed ∧ Exa Z h a19_0 "java/util/ArrayList" ∧ Fld Z h a19_0 "java/util/AbstractList" "modCount" "I" (.int mc) ∧ Fld Z h a19_0 "java/util/ArrayList" "size" "I" (.int (0 : Int32)) ∧ Fld Z h a19_0 "java/util/ArrayList" "elementData" "[Ljava/lang/Object;" (.ref ed) ∧ Arv Z h ed ke (.object "java/lang/Object") (10 : Int32) [.null, .null, .null, .null, .null, .null, .null, .null, .null, .null] .null ∧ Exa Z h ed "[Ljava/lang/Object;" ∧ Ovr Z ke "java/lang/Object"
set_option maxRecDepth 65536 in
set_option maxHeartbeats 40000000 in
theorem rm19 (l : Launch) (Z : State) (a0 : Array Value) (hw : ∀ d ∈ tables_1, d.before a0 Z = true) (ws : List Jvm.Cond) (a19_0 : Addr) (mc : Int32) (u_DEFAULTCAPACITY_EMPTY_ELEMENTDATA : Addr) (cl_u_DEFAULTCAPACITY_EMPTY_ELEMENTDATA : Cell) (h0 : Heap) (n0 : Nat) (Z0 : n0 ≤ h0.size) (Ea : Exa Z h0 a19_0 "java/util/ArrayList") (Fm : Fld Z h0 a19_0 "java/util/AbstractList" "modCount" "I" (.int mc)) (Fz : Fld Z h0 a19_0 "java/util/ArrayList" "size" "I" (.int (0 : Int32))) (Fe : Fld Z h0 a19_0 "java/util/ArrayList" "elementData" "[Ljava/lang/Object;" (.ref u_DEFAULTCAPACITY_EMPTY_ELEMENTDATA)) (S_DEFAULTCAPACITY_EMPTY_ELEMENTDATA : Sta Z h0 "java/util/ArrayList" "DEFAULTCAPACITY_EMPTY_ELEMENTDATA" "[Ljava/lang/Object;" (.ref u_DEFAULTCAPACITY_EMPTY_ELEMENTDATA)) (V_u_DEFAULTCAPACITY_EMPTY_ELEMENTDATA : Arv Z h0 u_DEFAULTCAPACITY_EMPTY_ELEMENTDATA cl_u_DEFAULTCAPACITY_EMPTY_ELEMENTDATA.cls (.object "java/lang/Object") (0 : Int32) [] .null) (g_a19_0 : n0 ≤ a19_0) :
    MetFree l (⟨"java/util/ArrayList", "grow", "(I)[Ljava/lang/Object;"⟩ : MethodName) (head1 (Jvm.Cond.code (⟨"java/util/ArrayList", "grow", "(I)[Ljava/lang/Object;"⟩ : MethodName) jdk_38_method_6_code 4 (some (.array (.object "java/lang/Object"))) :: ws) ({ frames := 1, cells := 1, slots := 10, locals := 14 } : Room)) (fun a U => a = #[(.ref a19_0), (.int (1 : Int32))] ∧ Z.Warmed39 U.vm ∧ U.heap = h0) (fun _ _ _ _ _ => True) (fun _ U o U' => ∃ v L, o = .returned v ∧ Q19 Z a19_0 mc u_DEFAULTCAPACITY_EMPTY_ELEMENTDATA cl_u_DEFAULTCAPACITY_EMPTY_ELEMENTDATA h0 n0 v U'.heap L ∧ FrameEnd U o U' L ({ frames := 1, cells := 1, slots := 10, locals := 14 } : Room).cells ({ frames := 1, cells := 1, slots := 10, locals := 14 } : Room).slots) := by
  refine MetFree.of_bodySF (plainFor_of_name pn_2) hisR ?_
  intro p e s m args below meth c s₁ Bd hml0 hP hK
  obtain ⟨rfl, hZ, hh⟩ := hP
  have hx := Bd.exec
  have hby := Bd.bytes
  have hml : c.maxLocals = 4 := hml0
  have hown : s.vm.findClass "java/util/ArrayList" = some m.cls := findClass_of_methodNamed Bd.named
  have hnm := (name_of_methodNamed Bd.named Bd.method).1
  have X0 : Stand p l e ({ frames := 1, cells := 1, slots := 10, locals := 14 } : Room) s m #[(.ref a19_0), (.int (1 : Int32))] below meth c s₁ [] 0 0 := Stand.of_body Bd
  have e0 : s₁.heap = h0 := by rw [← hh, Bd.state]; rfl
  have N0 := Fr.nil n0
  have pre0 : ∀ t, Steps p.tables e below (s₁.setTop (mkF m 0 #[.val (.ref a19_0), .val (.int (1 : Int32)), .unset, .unset] [])) t → Steps p.tables e below (s₁.setTop (entryFrame m #[(.ref a19_0), (.int (1 : Int32))] 4)) t := fun t k => castTop (ef_19 m a19_0) k
  obtain ⟨T1, X1, e1, st1⟩ := getF X0 hx hZ hown (host := "") (Or.inl (wd hw 43 rfl)) Via.refl e0 Fe (g := (mkF m 1 #[.val (.ref a19_0), .val (.int (1 : Int32)), .unset, .unset] [(.ref a19_0)])) rfl rfl (hb hby d19_1)
  obtain ⟨cl2, Ar2, qc2, Sz2, Nn2, Hh2, Gg2⟩ := (id V_u_DEFAULTCAPACITY_EMPTY_ELEMENTDATA)
  obtain ⟨T3, X3, e3, st3⟩ := getF X1 hx hZ hown (host := "") (Or.inl (wd hw 43 rfl)) Via.refl e1 Fe (g := (mkF m 11 #[.val (.ref a19_0), .val (.int (1 : Int32)), .val (.int (0 : Int32)), .unset] [(.ref a19_0)])) rfl rfl (hb hby d19_11)
  obtain ⟨T4, X4, e4, st4⟩ := getS2 X3 hx hZ hown (host := "") (Or.inl (wd hw 42 rfl)) Via.refl e3 S_DEFAULTCAPACITY_EMPTY_ELEMENTDATA (g := (mkF m 14 #[.val (.ref a19_0), .val (.int (1 : Int32)), .val (.int (0 : Int32)), .unset] [(.ref u_DEFAULTCAPACITY_EMPTY_ELEMENTDATA)])) rfl (hb hby d19_14)
  obtain ⟨_, _, ⟨T5, L5, k5, n5⟩, -, X5, ⟨Lc5, hQ5, l5, y5, z5⟩, st5⟩ := Jvm.LawKit.callS X4 hx (y := (⟨"java/lang/Math", "max", "(II)I"⟩ : MethodName)) hown (mvT hZ (wd hw 140 rfl)) (mvT hZ (wd hw 141 rfl)) (mvT hZ (wd hw 142 rfl)) (mvT hZ (wd hw 143 rfl)) (by decide) (backOf (W := 1) (rm16 l Z a0 hw []  h0 n0 Z0 ) hZ (wd hw 143 rfl) (wd hw 142 rfl) (by decide) (by decide)) (g := (mkF m 49 #[.val (.ref a19_0), .val (.int (1 : Int32)), .val (.int (0 : Int32)), .unset] [(.int (1 : Int32)), (.int (10 : Int32)), (.ref a19_0)])) rfl (by rw [hml]; rfl) (argsL := [(.int (10 : Int32)), (.int (1 : Int32))]) (rest := [(.ref a19_0)]) (lenOf pd_6 rfl) rfl (by show 2 * 0 + _ ≤ _; exact Nat.le_of_eq rfl) (hb hby d19_49) (fun _ _ => ⟨rfl, e4, (by decide : 0 + 0 ≤ _), (by decide : 0 + 0 ≤ _)⟩)
  dsimp only [Pt.U, Pt.locs, Pt.cells, Pt.slots] at X5 l5 y5 z5 st5 hQ5
  rw [l5, y5, z5] at X5
  obtain ⟨rfl, N5q, eh5⟩ := hQ5
  have N5 := Fr.app N0 N5q
  obtain ⟨b6, g6⟩ : ∃ z, z = h0.size := ⟨_, rfl⟩
  obtain ⟨T6, h6, k6, X6, e6, E6, A6, Ea6, O6, st6⟩ := newRE X5 hx hZ hown (wd hw 144 rfl) (wd hw 145 rfl) eh5 (g := (mkF m 52 #[.val (.ref a19_0), .val (.int (1 : Int32)), .val (.int (0 : Int32)), .unset] [(.int (10 : Int32)), (.ref a19_0)])) rfl (hb hby d19_52) rfl (by decide) (cap := 10) (by decide) (by decide) (by decide) (by decide) (ad := "[Ljava/lang/Object;") (by decide)
  rw [← g6] at Ea6
  rw [← g6] at A6 st6
  have ne7 : a19_0 ≠ b6 := Nat.ne_of_lt (Nat.lt_of_lt_of_le Ea.lt (Nat.le_of_eq g6.symm))
  have ne8 : u_DEFAULTCAPACITY_EMPTY_ELEMENTDATA ≠ b6 := Nat.ne_of_lt (Nat.lt_of_lt_of_le V_u_DEFAULTCAPACITY_EMPTY_ELEMENTDATA.lt (Nat.le_of_eq g6.symm))
  have gg6 : n0 ≤ b6 := Nat.le_trans Z0 (Nat.le_of_eq g6.symm)
  have sz6 : h0.size ≤ b6 := Nat.le_trans (Keep.refl h0 [a19_0]).1 (Nat.le_of_eq g6.symm)
  have Zs6 : n0 ≤ h6.size := Nat.le_trans Z0 E6.1
  have K6 : Keep h0 h6 [a19_0] := (Keep.refl h0 [a19_0]).ext E6
  have F9 := Ea.ext E6
  have F10 := Fm.ext E6
  have F11 := Fz.ext E6
  have F12 := Fe.ext E6
  have F13 := S_DEFAULTCAPACITY_EMPTY_ELEMENTDATA.ext E6
  have F14 := V_u_DEFAULTCAPACITY_EMPTY_ELEMENTDATA.ext E6
  have V6 : Arv Z h6 b6 k6 (.object "java/lang/Object") (10 : Int32) [.null, .null, .null, .null, .null, .null, .null, .null, .null, .null] .null := (Arv.new A6 (by decide)).pad (pad_rep [] .null 10)
  obtain ⟨T15, h15, X15, e15, W15, st15⟩ := putF X6 hx hZ hown (host := "") (Or.inl (wd hw 43 rfl)) Via.refl e6 F12 F9 (Or.inl (wd hw 44 rfl)) (wd hw 22 rfl) (ty := (.array (.object "java/lang/Object"))) (by decide) rfl rfl (g := (mkF m 56 #[.val (.ref a19_0), .val (.int (1 : Int32)), .val (.int (0 : Int32)), .unset] [(.ref b6), (.ref a19_0), (.ref b6)])) rfl rfl (hb hby d19_56)
  have Fw15 : Fld Z h15 a19_0 "java/util/ArrayList" "elementData" "[Ljava/lang/Object;" (.ref b6) := F12.same W15
  have F16 := F9.wr W15
  have F17 := F10.other W15 (Or.inr (slot_ne (Or.inl (wd hw 41 rfl)) (Or.inl (wd hw 44 rfl)) (by decide) (t := .int) (t' := (.array (.object "java/lang/Object"))) (by decide) (by decide)))
  have F18 := F11.other W15 (Or.inr (slot_ne (Or.inl (wd hw 124 rfl)) (Or.inl (wd hw 44 rfl)) (by decide) (t := .int) (t' := (.array (.object "java/lang/Object"))) (by decide) (by decide)))
  have F20 := F13.wr W15
  have F22 := Ea6.wr W15
  have F23 := V6.other W15 (Ne.symm ne7)
  have N15 := Fr.snoc X15 N5 g_a19_0
  have K15 : Keep h0 h15 [a19_0] := K6.wr W15 (Or.inl (List.mem_of_getElem? (i := 0) rfl))
  have Zs15 : n0 ≤ h15.size := by rw [W15.size]; exact Zs6
  have k24 : ∀ t, Steps p.tables e below (T15.setTop (mkF m 59 #[.val (.ref a19_0), .val (.int (1 : Int32)), .val (.int (0 : Int32)), .unset] [(.ref b6)])) t → Steps p.tables e below (s₁.setTop (entryFrame m #[(.ref a19_0), (.int (1 : Int32))] 4)) t := by
    intro t k
    refine pre0 t ?_
    refine XS.aloadN X0.here hx rfl (hb hby d19_0) rfl rfl ?_
    refine st1 _ ?_
    refine X1.arraylength hx (by rw [e1]; exact Ar2.1) (State.isArrayOf_alike hZ.alike Ar2.2.1) (g := (mkF m 4 #[.val (.ref a19_0), .val (.int (1 : Int32)), .unset, .unset] [(.ref u_DEFAULTCAPACITY_EMPTY_ELEMENTDATA)])) rfl rfl (hb hby d19_4) _ ?_
    rw [len_of Sz2 Nn2]
    refine XS.istoreN X1.here hx rfl (hb hby d19_5) rfl (l' := #[.val (.ref a19_0), .val (.int (1 : Int32)), .val (.int (0 : Int32)), .unset]) rfl ?_
    refine XS.iloadN X1.here hx rfl (hb hby d19_6) rfl ?_
    refine XS.ifNo X1.here hx rfl (hb hby d19_7) rfl ((if0 _ _).trans (flt (by decide : ¬ ((0 : Int32) < (0 : Int32)))).2.2.1) ?_
    refine XS.aloadN X1.here hx rfl (hb hby d19_10) rfl rfl ?_
    refine st3 _ ?_
    refine st4 _ ?_
    refine Jvm.RoadKit.acmp (g := (mkF m 17 #[.val (.ref a19_0), .val (.int (1 : Int32)), .val (.int (0 : Int32)), .unset] [(.ref u_DEFAULTCAPACITY_EMPTY_ELEMENTDATA), (.ref u_DEFAULTCAPACITY_EMPTY_ELEMENTDATA)])) X4 hx rfl rfl rfl (pc0 := 17) (pc' := 45) (same := true) rfl (hb hby d19_17) rfl (decide_eq_true rfl) (by decide) (by decide) ?_
    refine XS.aloadN X4.here hx rfl (hb hby d19_45) rfl rfl ?_
    refine XS.bipush X4.here hx rfl (hb hby d19_46) ?_
    refine XS.iloadN X4.here hx rfl (hb hby d19_48) rfl ?_
    show Steps p.tables e below (T4.setTop (mkF m 49 #[.val (.ref a19_0), .val (.int (1 : Int32)), .val (.int (0 : Int32)), .unset] [(.int (1 : Int32)), (.int (10 : Int32)), (.ref a19_0)])) _
    refine st5 _ ?_
    refine st6 _ ?_
    refine XS.dupX1 X6.here hx rfl (hb hby d19_55) rfl rfl rfl ?_
    refine st15 _ ?_
    exact k
  obtain ⟨fs, hr, hrun, hended, hW, hsame⟩ := X15.leave (v := some (.ref b6)) (fun h => by rw [Bd.returns] at h; cases h)
  refine ⟨_, _, k24 _ ?_, hrun, hended, _, _, rfl, ?_, ⟨_, rfl⟩, hW, hsame.mono (by decide) (by decide)⟩
  · exact retOut X15 hx Bd.returns rfl (Or.inr (Or.inr (Or.inr (Or.inr ⟨rfl, rfl, rfl⟩)))) (hb hby d19_59) hr
  · show Q19 Z a19_0 mc u_DEFAULTCAPACITY_EMPTY_ELEMENTDATA cl_u_DEFAULTCAPACITY_EMPTY_ELEMENTDATA h0 n0 _ T15.heap _
    rw [e15]
    exact ⟨b6, k6, rfl, N15, K15, gg6, sz6, F16, F17, F18, Fw15, F23, F22, O6⟩
theorem pd_7 : parseMethodDescriptor "(I)[Ljava/lang/Object;" = some ⟨[.int], some (.array (.object "java/lang/Object"))⟩ := by decide +kernel
theorem d20_0 : decode jdk_38_method_7_code 0 = .ok (.aload_n 0, 1) := by decide +kernel
theorem d20_1 : decode jdk_38_method_7_code 1 = .ok (.aload_n 0, 1) := by decide +kernel
theorem d20_2 : decode jdk_38_method_7_code 2 = .ok (.getfield 48, 3) := by decide +kernel
theorem d20_5 : decode jdk_38_method_7_code 5 = .ok (.iconst 1, 1) := by decide +kernel
theorem d20_6 : decode jdk_38_method_7_code 6 = .ok (.iadd, 1) := by decide +kernel
theorem d20_7 : decode jdk_38_method_7_code 7 = .ok (.invokevirtual 69, 3) := by decide +kernel
theorem d20_10 : decode jdk_38_method_7_code 10 = .ok (.areturn, 1) := by decide +kernel
theorem ef_20 (m : MethodId) (a20_0 : Addr) : entryFrame m #[(.ref a20_0)] 1 = mkF m 0 #[.val (.ref a20_0)] [] := by first | (simp [entryFrame, mkF, argsToLocals, Value.category]; done) | rfl
def Q20 (Z : State) (a20_0 : Addr) (mc : Int32) (u_DEFAULTCAPACITY_EMPTY_ELEMENTDATA : Addr) (cl_u_DEFAULTCAPACITY_EMPTY_ELEMENTDATA : Cell) (h0 : Heap) (n0 : Nat) (v : Option Value) (h : Heap) (L : List Loc) : Prop := ∃ ed : Addr, ∃ ke : ClassId, v = some (.ref ed) ∧ Fr n0 L ∧ Keep h0 h [a20_0] ∧ n0 ≤ ed ∧ h0.size ≤ ed ∧ Exa Z h a20_0 "java/util/ArrayList" ∧ Fld Z h a20_0 "java/util/AbstractList" "modCount" "I" (.int mc) ∧ Fld Z h a20_0 "java/util/ArrayList" "size" "I" (.int (0 : Int32)) ∧ Fld Z h a20_0 "java/util/ArrayList" "elementData" "[Ljava/lang/Object;" (.ref ed) ∧ Arv Z h ed ke (.object "java/lang/Object") (10 : Int32) [.null, .null, .null, .null, .null, .null, .null, .null, .null, .null] .null ∧ Exa Z h ed "[Ljava/lang/Object;" ∧ Ovr Z ke "java/lang/Object"
set_option maxRecDepth 65536 in
set_option maxHeartbeats 40000000 in
theorem rm20 (l : Launch) (Z : State) (a0 : Array Value) (hw : ∀ d ∈ tables_1, d.before a0 Z = true) (ws : List Jvm.Cond) (a20_0 : Addr) (mc : Int32) (u_DEFAULTCAPACITY_EMPTY_ELEMENTDATA : Addr) (cl_u_DEFAULTCAPACITY_EMPTY_ELEMENTDATA : Cell) (h0 : Heap) (n0 : Nat) (Z0 : n0 ≤ h0.size) (Ea : Exa Z h0 a20_0 "java/util/ArrayList") (Fm : Fld Z h0 a20_0 "java/util/AbstractList" "modCount" "I" (.int mc)) (Fe : Fld Z h0 a20_0 "java/util/ArrayList" "elementData" "[Ljava/lang/Object;" (.ref u_DEFAULTCAPACITY_EMPTY_ELEMENTDATA)) (Fz : Fld Z h0 a20_0 "java/util/ArrayList" "size" "I" (.int (0 : Int32))) (S_DEFAULTCAPACITY_EMPTY_ELEMENTDATA : Sta Z h0 "java/util/ArrayList" "DEFAULTCAPACITY_EMPTY_ELEMENTDATA" "[Ljava/lang/Object;" (.ref u_DEFAULTCAPACITY_EMPTY_ELEMENTDATA)) (V_u_DEFAULTCAPACITY_EMPTY_ELEMENTDATA : Arv Z h0 u_DEFAULTCAPACITY_EMPTY_ELEMENTDATA cl_u_DEFAULTCAPACITY_EMPTY_ELEMENTDATA.cls (.object "java/lang/Object") (0 : Int32) [] .null) (g_a20_0 : n0 ≤ a20_0) :
    MetFree l (⟨"java/util/ArrayList", "grow", "()[Ljava/lang/Object;"⟩ : MethodName) (head1 (Jvm.Cond.code (⟨"java/util/ArrayList", "grow", "()[Ljava/lang/Object;"⟩ : MethodName) jdk_38_method_7_code 1 (some (.array (.object "java/lang/Object"))) :: ws) ({ frames := 2, cells := 1, slots := 10, locals := 29 } : Room)) (fun a U => a = #[(.ref a20_0)] ∧ Z.Warmed39 U.vm ∧ U.heap = h0) (fun _ _ _ _ _ => True) (fun _ U o U' => ∃ v L, o = .returned v ∧ Q20 Z a20_0 mc u_DEFAULTCAPACITY_EMPTY_ELEMENTDATA cl_u_DEFAULTCAPACITY_EMPTY_ELEMENTDATA h0 n0 v U'.heap L ∧ FrameEnd U o U' L ({ frames := 2, cells := 1, slots := 10, locals := 29 } : Room).cells ({ frames := 2, cells := 1, slots := 10, locals := 29 } : Room).slots) := by
  refine MetFree.of_bodySF (plainFor_of_name pn_2) hisR ?_
  intro p e s m args below meth c s₁ Bd hml0 hP hK
  obtain ⟨rfl, hZ, hh⟩ := hP
  have hx := Bd.exec
  have hby := Bd.bytes
  have hml : c.maxLocals = 1 := hml0
  have hown : s.vm.findClass "java/util/ArrayList" = some m.cls := findClass_of_methodNamed Bd.named
  have hnm := (name_of_methodNamed Bd.named Bd.method).1
  have X0 : Stand p l e ({ frames := 2, cells := 1, slots := 10, locals := 29 } : Room) s m #[(.ref a20_0)] below meth c s₁ [] 0 0 := Stand.of_body Bd
  have e0 : s₁.heap = h0 := by rw [← hh, Bd.state]; rfl
  have N0 := Fr.nil n0
  have pre0 : ∀ t, Steps p.tables e below (s₁.setTop (mkF m 0 #[.val (.ref a20_0)] [])) t → Steps p.tables e below (s₁.setTop (entryFrame m #[(.ref a20_0)] 1)) t := fun t k => castTop (ef_20 m a20_0) k
  obtain ⟨T1, X1, e1, st1⟩ := getF X0 hx hZ hown (host := "") (Or.inl (wd hw 123 rfl)) Via.refl e0 Fz (g := (mkF m 2 #[.val (.ref a20_0)] [(.ref a20_0), (.ref a20_0)])) rfl rfl (hb hby d20_2)
  obtain ⟨cq2, q2, q2'⟩ := Ea.cell
  obtain ⟨_, _, ⟨T2, L2, k2, n2⟩, -, X2, ⟨Lc2, hQ2, l2, y2, z2⟩, st2⟩ := X1.privateBack hx (y := (⟨"java/util/ArrayList", "grow", "(I)[Ljava/lang/Object;"⟩ : MethodName)) hown (mvT hZ (wd hw 135 rfl)) (mvT hZ (wd hw 136 rfl)) (mvT hZ (wd hw 138 rfl)) (Cond.privateMethod_at (mvP hZ (wd hw 137 rfl) (args := #[]))) (mvT hZ (wd hw 139 rfl)) (by decide) (backOf (W := 0) (rm19 l Z a0 hw [] a20_0 mc u_DEFAULTCAPACITY_EMPTY_ELEMENTDATA cl_u_DEFAULTCAPACITY_EMPTY_ELEMENTDATA h0 n0 Z0 Ea Fm Fz Fe S_DEFAULTCAPACITY_EMPTY_ELEMENTDATA V_u_DEFAULTCAPACITY_EMPTY_ELEMENTDATA g_a20_0) hZ (wd hw 139 rfl) (wd hw 23 rfl) (by decide) (by decide)) (g := (mkF m 7 #[.val (.ref a20_0)] [(.int (1 : Int32)), (.ref a20_0)])) rfl (by rw [hml]; rfl) (Steps.refl _) (a := a20_0) (by rw [e1]; exact q2) q2' (argsL := [(.int (1 : Int32))]) (rest := []) (lenOf pd_7 rfl) rfl (by show 2 * 0 + _ ≤ _; exact Nat.le_of_eq rfl) (hb hby d20_7) (fun _ _ => ⟨rfl, e1, (by decide : 0 + 1 ≤ _), (by decide : 0 + 10 ≤ _)⟩)
  dsimp only [Pt.U, Pt.locs, Pt.cells, Pt.slots] at X2 l2 y2 z2 st2 hQ2
  rw [l2, y2, z2] at X2
  obtain ⟨ed_2, ke_2, rfl, N2q, Kc2, gged_2, szed_2, G2_0, G2_1, G2_2, G2_3, G2_4, G2_5, P2_0⟩ := hQ2
  have ne3 : a20_0 ≠ ed_2 := Nat.ne_of_lt (Nat.lt_of_lt_of_le Ea.lt szed_2)
  have ne4 : u_DEFAULTCAPACITY_EMPTY_ELEMENTDATA ≠ ed_2 := Nat.ne_of_lt (Nat.lt_of_lt_of_le V_u_DEFAULTCAPACITY_EMPTY_ELEMENTDATA.lt szed_2)
  have szzed_2 : h0.size ≤ ed_2 := Nat.le_trans (Keep.refl h0 [a20_0]).1 szed_2
  have Zs2 : n0 ≤ T2.heap.size := Nat.le_trans Z0 Kc2.1
  have K2 : Keep h0 T2.heap [a20_0] := (Keep.refl h0 [a20_0]).trans Kc2 (allS (Or.inl (List.mem_of_getElem? (i := 0) rfl)) all0)
  have F5 := own_stakeep S_DEFAULTCAPACITY_EMPTY_ELEMENTDATA Kc2 (allS (own_nsE Ea) all0)
  have N2 := Fr.app N0 N2q
  have k7 : ∀ t, Steps p.tables e below (T2.setTop (mkF m 10 #[.val (.ref a20_0)] [(.ref ed_2)])) t → Steps p.tables e below (s₁.setTop (entryFrame m #[(.ref a20_0)] 1)) t := by
    intro t k
    refine pre0 t ?_
    refine XS.aloadN X0.here hx rfl (hb hby d20_0) rfl rfl ?_
    refine XS.aloadN X0.here hx rfl (hb hby d20_1) rfl rfl ?_
    refine st1 _ ?_
    refine XS.iconst X1.here hx rfl (hb hby d20_5) ?_
    refine XS.iadd X1.here hx rfl (hb hby d20_6) rfl ?_
    refine st2.trans ?_
    exact k
  obtain ⟨fs, hr, hrun, hended, hW, hsame⟩ := X2.leave (v := some (.ref ed_2)) (fun h => by rw [Bd.returns] at h; cases h)
  refine ⟨_, _, k7 _ ?_, hrun, hended, _, _, rfl, ?_, ⟨_, rfl⟩, hW, hsame.mono (by decide) (by decide)⟩
  · exact retOut X2 hx Bd.returns rfl (Or.inr (Or.inr (Or.inr (Or.inr ⟨rfl, rfl, rfl⟩)))) (hb hby d20_10) hr
  · show Q20 Z a20_0 mc u_DEFAULTCAPACITY_EMPTY_ELEMENTDATA cl_u_DEFAULTCAPACITY_EMPTY_ELEMENTDATA h0 n0 _ T2.heap _
    exact ⟨ed_2, ke_2, rfl, N2, K2, gged_2, szzed_2, G2_0, G2_1, G2_2, G2_3, G2_4, G2_5, P2_0⟩
theorem pd_8 : parseMethodDescriptor "()[Ljava/lang/Object;" = some ⟨[], some (.array (.object "java/lang/Object"))⟩ := by decide +kernel
theorem d21_0 : decode jdk_38_method_24_code 0 = .ok (.iload_n 3, 1) := by decide +kernel
theorem d21_1 : decode jdk_38_method_24_code 1 = .ok (.aload_n 2, 1) := by decide +kernel
theorem d21_2 : decode jdk_38_method_24_code 2 = .ok (.arraylength, 1) := by decide +kernel
theorem d21_3 : decode jdk_38_method_24_code 3 = .ok (.if_icmp .ne 8, 3) := by decide +kernel
theorem d21_6 : decode jdk_38_method_24_code 6 = .ok (.aload_n 0, 1) := by decide +kernel
theorem d21_7 : decode jdk_38_method_24_code 7 = .ok (.invokevirtual 129, 3) := by decide +kernel
theorem d21_10 : decode jdk_38_method_24_code 10 = .ok (.astore_n 2, 1) := by decide +kernel
theorem d21_11 : decode jdk_38_method_24_code 11 = .ok (.aload_n 2, 1) := by decide +kernel
theorem d21_12 : decode jdk_38_method_24_code 12 = .ok (.iload_n 3, 1) := by decide +kernel
theorem d21_13 : decode jdk_38_method_24_code 13 = .ok (.aload_n 1, 1) := by decide +kernel
theorem d21_14 : decode jdk_38_method_24_code 14 = .ok (.aastore, 1) := by decide +kernel
theorem d21_15 : decode jdk_38_method_24_code 15 = .ok (.aload_n 0, 1) := by decide +kernel
theorem d21_16 : decode jdk_38_method_24_code 16 = .ok (.iload_n 3, 1) := by decide +kernel
theorem d21_17 : decode jdk_38_method_24_code 17 = .ok (.iconst 1, 1) := by decide +kernel
theorem d21_18 : decode jdk_38_method_24_code 18 = .ok (.iadd, 1) := by decide +kernel
theorem d21_19 : decode jdk_38_method_24_code 19 = .ok (.putfield 48, 3) := by decide +kernel
theorem d21_22 : decode jdk_38_method_24_code 22 = .ok (.return_, 1) := by decide +kernel
theorem ef_21 (m : MethodId) (a21_0 : Addr) (a21_1 : Addr) (u_DEFAULTCAPACITY_EMPTY_ELEMENTDATA : Addr) : entryFrame m #[(.ref a21_0), (.ref a21_1), (.ref u_DEFAULTCAPACITY_EMPTY_ELEMENTDATA), (.int (0 : Int32))] 4 = mkF m 0 #[.val (.ref a21_0), .val (.ref a21_1), .val (.ref u_DEFAULTCAPACITY_EMPTY_ELEMENTDATA), .val (.int (0 : Int32))] [] := by first | (simp [entryFrame, mkF, argsToLocals, Value.category]; done) | rfl
def Q21 (Z : State) (a21_0 : Addr) (a21_1 : Addr) (u_DEFAULTCAPACITY_EMPTY_ELEMENTDATA : Addr) (mc : Int32) (cl_u_DEFAULTCAPACITY_EMPTY_ELEMENTDATA : Cell) (h0 : Heap) (n0 : Nat) (v : Option Value) (h : Heap) (L : List Loc) : Prop := ∃ en : Addr, ∃ kn : ClassId, v = none ∧ Fr n0 L ∧ Keep h0 h [a21_0] ∧ n0 ≤ en ∧ h0.size ≤ en ∧ Exa Z h a21_0 "java/util/ArrayList" ∧ Fld Z h a21_0 "java/util/AbstractList" "modCount" "I" (.int mc) ∧ Fld Z h a21_0 "java/util/ArrayList" "size" "I" (.int (1 : Int32)) ∧ Fld Z h a21_0 "java/util/ArrayList" "elementData" "[Ljava/lang/Object;" (.ref en) ∧ Arv Z h en kn (.object "java/lang/Object") (10 : Int32) [(.ref a21_1), .null, .null, .null, .null, .null, .null, .null, .null, .null] .null ∧ Exa Z h en "[Ljava/lang/Object;" ∧ Ovr Z kn "java/lang/Object"
set_option maxRecDepth 65536 in
set_option maxHeartbeats 40000000 in
theorem rm21 (l : Launch) (Z : State) (a0 : Array Value) (hw : ∀ d ∈ tables_1, d.before a0 Z = true) (ws : List Jvm.Cond) (a21_0 : Addr) (a21_1 : Addr) (u_DEFAULTCAPACITY_EMPTY_ELEMENTDATA : Addr) (mc : Int32) (cl_u_DEFAULTCAPACITY_EMPTY_ELEMENTDATA : Cell) (h0 : Heap) (n0 : Nat) (Z0 : n0 ≤ h0.size) (Ea : Exa Z h0 a21_0 "java/util/ArrayList") (Fm : Fld Z h0 a21_0 "java/util/AbstractList" "modCount" "I" (.int mc)) (Fz : Fld Z h0 a21_0 "java/util/ArrayList" "size" "I" (.int (0 : Int32))) (Eo : Exa Z h0 a21_1 "com/example/batchrake/batchrake/DeleteReport$Failure") (Fe : Fld Z h0 a21_0 "java/util/ArrayList" "elementData" "[Ljava/lang/Object;" (.ref u_DEFAULTCAPACITY_EMPTY_ELEMENTDATA)) (S_DEFAULTCAPACITY_EMPTY_ELEMENTDATA : Sta Z h0 "java/util/ArrayList" "DEFAULTCAPACITY_EMPTY_ELEMENTDATA" "[Ljava/lang/Object;" (.ref u_DEFAULTCAPACITY_EMPTY_ELEMENTDATA)) (V_u_DEFAULTCAPACITY_EMPTY_ELEMENTDATA : Arv Z h0 u_DEFAULTCAPACITY_EMPTY_ELEMENTDATA cl_u_DEFAULTCAPACITY_EMPTY_ELEMENTDATA.cls (.object "java/lang/Object") (0 : Int32) [] .null) (g_a21_0 : n0 ≤ a21_0) :
    MetFree l (⟨"java/util/ArrayList", "add", "(Ljava/lang/Object;[Ljava/lang/Object;I)V"⟩ : MethodName) (head1 (Jvm.Cond.code (⟨"java/util/ArrayList", "add", "(Ljava/lang/Object;[Ljava/lang/Object;I)V"⟩ : MethodName) jdk_38_method_24_code 4 none :: ws) ({ frames := 3, cells := 1, slots := 10, locals := 41 } : Room)) (fun a U => a = #[(.ref a21_0), (.ref a21_1), (.ref u_DEFAULTCAPACITY_EMPTY_ELEMENTDATA), (.int (0 : Int32))] ∧ Z.Warmed39 U.vm ∧ U.heap = h0) (fun _ _ _ _ _ => True) (fun _ U o U' => ∃ v L, o = .returned v ∧ Q21 Z a21_0 a21_1 u_DEFAULTCAPACITY_EMPTY_ELEMENTDATA mc cl_u_DEFAULTCAPACITY_EMPTY_ELEMENTDATA h0 n0 v U'.heap L ∧ FrameEnd U o U' L ({ frames := 3, cells := 1, slots := 10, locals := 41 } : Room).cells ({ frames := 3, cells := 1, slots := 10, locals := 41 } : Room).slots) := by
  refine MetFree.of_bodySF (plainFor_of_name pn_2) hisR ?_
  intro p e s m args below meth c s₁ Bd hml0 hP hK
  obtain ⟨rfl, hZ, hh⟩ := hP
  have hx := Bd.exec
  have hby := Bd.bytes
  have hml : c.maxLocals = 4 := hml0
  have hown : s.vm.findClass "java/util/ArrayList" = some m.cls := findClass_of_methodNamed Bd.named
  have hnm := (name_of_methodNamed Bd.named Bd.method).1
  have X0 : Stand p l e ({ frames := 3, cells := 1, slots := 10, locals := 41 } : Room) s m #[(.ref a21_0), (.ref a21_1), (.ref u_DEFAULTCAPACITY_EMPTY_ELEMENTDATA), (.int (0 : Int32))] below meth c s₁ [] 0 0 := Stand.of_body Bd
  have e0 : s₁.heap = h0 := by rw [← hh, Bd.state]; rfl
  have N0 := Fr.nil n0
  have pre0 : ∀ t, Steps p.tables e below (s₁.setTop (mkF m 0 #[.val (.ref a21_0), .val (.ref a21_1), .val (.ref u_DEFAULTCAPACITY_EMPTY_ELEMENTDATA), .val (.int (0 : Int32))] [])) t → Steps p.tables e below (s₁.setTop (entryFrame m #[(.ref a21_0), (.ref a21_1), (.ref u_DEFAULTCAPACITY_EMPTY_ELEMENTDATA), (.int (0 : Int32))] 4)) t := fun t k => castTop (ef_21 m a21_0 a21_1 u_DEFAULTCAPACITY_EMPTY_ELEMENTDATA) k
  obtain ⟨cl1, Ar1, qc1, Sz1, Nn1, Hh1, Gg1⟩ := (id V_u_DEFAULTCAPACITY_EMPTY_ELEMENTDATA)
  obtain ⟨cq2, q2, q2'⟩ := Ea.cell
  obtain ⟨_, _, ⟨T2, L2, k2, n2⟩, -, X2, ⟨Lc2, hQ2, l2, y2, z2⟩, st2⟩ := X0.privateBack hx (y := (⟨"java/util/ArrayList", "grow", "()[Ljava/lang/Object;"⟩ : MethodName)) hown (mvT hZ (wd hw 130 rfl)) (mvT hZ (wd hw 131 rfl)) (mvT hZ (wd hw 133 rfl)) (Cond.privateMethod_at (mvP hZ (wd hw 132 rfl) (args := #[]))) (mvT hZ (wd hw 134 rfl)) (by decide) (backOf (W := 0) (rm20 l Z a0 hw [] a21_0 mc u_DEFAULTCAPACITY_EMPTY_ELEMENTDATA cl_u_DEFAULTCAPACITY_EMPTY_ELEMENTDATA h0 n0 Z0 Ea Fm Fe Fz S_DEFAULTCAPACITY_EMPTY_ELEMENTDATA V_u_DEFAULTCAPACITY_EMPTY_ELEMENTDATA g_a21_0) hZ (wd hw 134 rfl) (wd hw 23 rfl) (by decide) (by decide)) (g := (mkF m 7 #[.val (.ref a21_0), .val (.ref a21_1), .val (.ref u_DEFAULTCAPACITY_EMPTY_ELEMENTDATA), .val (.int (0 : Int32))] [(.ref a21_0)])) rfl (by rw [hml]; rfl) (Steps.refl _) (a := a21_0) (by rw [e0]; exact q2) q2' (argsL := []) (rest := []) (lenOf pd_8 rfl) rfl (by show 2 * 0 + _ ≤ _; exact Nat.le_of_eq rfl) (hb hby d21_7) (fun _ _ => ⟨rfl, e0, (by decide : 0 + 1 ≤ _), (by decide : 0 + 10 ≤ _)⟩)
  dsimp only [Pt.U, Pt.locs, Pt.cells, Pt.slots] at X2 l2 y2 z2 st2 hQ2
  rw [l2, y2, z2] at X2
  obtain ⟨ed_2, ke_2, rfl, N2q, Kc2, gged_2, szed_2, G2_0, G2_1, G2_2, G2_3, G2_4, G2_5, P2_0⟩ := hQ2
  have ne3 : a21_0 ≠ ed_2 := Nat.ne_of_lt (Nat.lt_of_lt_of_le Ea.lt szed_2)
  have ne4 : a21_1 ≠ ed_2 := Nat.ne_of_lt (Nat.lt_of_lt_of_le Eo.lt szed_2)
  have ne5 : u_DEFAULTCAPACITY_EMPTY_ELEMENTDATA ≠ ed_2 := Nat.ne_of_lt (Nat.lt_of_lt_of_le V_u_DEFAULTCAPACITY_EMPTY_ELEMENTDATA.lt szed_2)
  have szzed_2 : h0.size ≤ ed_2 := Nat.le_trans (Keep.refl h0 [a21_0]).1 szed_2
  have Zs2 : n0 ≤ T2.heap.size := Nat.le_trans Z0 Kc2.1
  have K2 : Keep h0 T2.heap [a21_0] := (Keep.refl h0 [a21_0]).trans Kc2 (allS (Or.inl (List.mem_of_getElem? (i := 0) rfl)) all0)
  have F6 := Eo.keep Kc2
  have F7 := own_stakeep S_DEFAULTCAPACITY_EMPTY_ELEMENTDATA Kc2 (allS (own_nsE Ea) all0)
  have N2 := Fr.app N0 N2q
  obtain ⟨cl9, Ar9, qc9, Sz9, Nn9, Hh9, Gg9⟩ := (id G2_4)
  have hin9 : ¬ ((0 : Int32) < 0 ∨ cl9.slots.size ≤ ((0 : Int32)).toNatClampNeg) := inb_of Sz9 ⟨by decide, by decide⟩
  obtain ⟨T9, h9, X9, e9, W9, st9⟩ := stR X2 hx hZ rfl Ar9 (j := (0 : Int32)) hin9 rfl (Sto.ofV Ar9 qc9 P2_0 (Ins.of_exa F6 (wd hw 146 rfl))) (g := (mkF m 14 #[.val (.ref a21_0), .val (.ref a21_1), .val (.ref ed_2), .val (.int (0 : Int32))] [(.ref a21_1), (.int (0 : Int32)), (.ref ed_2)])) rfl rfl (hb hby d21_14)
  have F10 := F6.wr W9
  have F11 := F7.wr W9
  have F12 := G2_0.wr W9
  have F13 := G2_1.other W9 (Or.inl ne3)
  have F14 := G2_2.other W9 (Or.inl ne3)
  have F15 := G2_3.other W9 (Or.inl ne3)
  have F17 := G2_5.wr W9
  have V9 : Arv Z h9 ed_2 ke_2 (.object "java/lang/Object") (10 : Int32) [(.ref a21_1), .null, .null, .null, .null, .null, .null, .null, .null, .null] .null := Arv.set Ar9 qc9 Sz9 Nn9 Hh9 Gg9 rfl W9 0 rfl (Nat.le_of_ble_eq_true rfl)
  have N9 := Fr.snoc X9 N2 gged_2
  have K9 : Keep h0 h9 [a21_0] := K2.wr W9 (Or.inr szzed_2)
  have Zs9 : n0 ≤ h9.size := by rw [W9.size]; exact Zs2
  obtain ⟨T18, h18, X18, e18, W18, st18⟩ := putF X9 hx hZ hown (host := "") (Or.inl (wd hw 123 rfl)) Via.refl e9 F14 F12 (Or.inl (wd hw 124 rfl)) (wd hw 22 rfl) (ty := .int) (by decide) rfl rfl (g := (mkF m 19 #[.val (.ref a21_0), .val (.ref a21_1), .val (.ref ed_2), .val (.int (0 : Int32))] [(.int (1 : Int32)), (.ref a21_0)])) rfl rfl (hb hby d21_19)
  have Fw18 : Fld Z h18 a21_0 "java/util/ArrayList" "size" "I" (.int (1 : Int32)) := F14.same W18
  have F19 := F10.wr W18
  have F20 := F11.wr W18
  have F21 := F12.wr W18
  have F22 := F13.other W18 (Or.inr (slot_ne (Or.inl (wd hw 41 rfl)) (Or.inl (wd hw 124 rfl)) (by decide) (t := .int) (t' := .int) (by decide) (by decide)))
  have F24 := F15.other W18 (Or.inr (slot_ne (Or.inl (wd hw 44 rfl)) (Or.inl (wd hw 124 rfl)) (by decide) (t := (.array (.object "java/lang/Object"))) (t' := .int) (by decide) (by decide)))
  have F25 := F17.wr W18
  have F26 := V9.other W18 (Ne.symm ne3)
  have N18 := Fr.snoc X18 N9 g_a21_0
  have K18 : Keep h0 h18 [a21_0] := K9.wr W18 (Or.inl (List.mem_of_getElem? (i := 0) rfl))
  have Zs18 : n0 ≤ h18.size := by rw [W18.size]; exact Zs9
  have k27 : ∀ t, Steps p.tables e below (T18.setTop (mkF m 22 #[.val (.ref a21_0), .val (.ref a21_1), .val (.ref ed_2), .val (.int (0 : Int32))] [])) t → Steps p.tables e below (s₁.setTop (entryFrame m #[(.ref a21_0), (.ref a21_1), (.ref u_DEFAULTCAPACITY_EMPTY_ELEMENTDATA), (.int (0 : Int32))] 4)) t := by
    intro t k
    refine pre0 t ?_
    refine XS.iloadN X0.here hx rfl (hb hby d21_0) rfl ?_
    refine XS.aloadN X0.here hx rfl (hb hby d21_1) rfl rfl ?_
    refine X0.arraylength hx (by rw [e0]; exact Ar1.1) (State.isArrayOf_alike hZ.alike Ar1.2.1) (g := (mkF m 2 #[.val (.ref a21_0), .val (.ref a21_1), .val (.ref u_DEFAULTCAPACITY_EMPTY_ELEMENTDATA), .val (.int (0 : Int32))] [(.ref u_DEFAULTCAPACITY_EMPTY_ELEMENTDATA), (.int (0 : Int32))])) rfl rfl (hb hby d21_2) _ ?_
    rw [len_of Sz1 Nn1]
    refine XS.icmpNo X0.here hx rfl (hb hby d21_3) rfl (teq (by decide : (0 : Int32) = (0 : Int32))).2 ?_
    refine XS.aloadN X0.here hx rfl (hb hby d21_6) rfl rfl ?_
    refine st2.trans ?_
    refine XS.astoreN X2.here hx rfl (hb hby d21_10) rfl rfl (l' := #[.val (.ref a21_0), .val (.ref a21_1), .val (.ref ed_2), .val (.int (0 : Int32))]) rfl ?_
    refine XS.aloadN X2.here hx rfl (hb hby d21_11) rfl rfl ?_
    refine XS.iloadN X2.here hx rfl (hb hby d21_12) rfl ?_
    refine XS.aloadN X2.here hx rfl (hb hby d21_13) rfl rfl ?_
    refine st9 _ ?_
    refine XS.aloadN X9.here hx rfl (hb hby d21_15) rfl rfl ?_
    refine XS.iloadN X9.here hx rfl (hb hby d21_16) rfl ?_
    show Steps p.tables e below (T9.setTop (mkF m 17 #[.val (.ref a21_0), .val (.ref a21_1), .val (.ref ed_2), .val (.int (0 : Int32))] [(.int (0 : Int32)), (.ref a21_0)])) _
    refine XS.iconst X9.here hx rfl (hb hby d21_17) ?_
    refine XS.iadd X9.here hx rfl (hb hby d21_18) rfl ?_
    refine st18 _ ?_
    exact k
  obtain ⟨fs, hr, hrun, hended, hW, hsame⟩ := X18.leave (v := none) (fun _ => rfl)
  refine ⟨_, _, k27 _ ?_, hrun, hended, _, _, rfl, ?_, ⟨_, rfl⟩, hW, hsame.mono (by decide) (by decide)⟩
  · exact X18.returnOut hx Bd.returns (hb hby d21_22) hr
  · show Q21 Z a21_0 a21_1 u_DEFAULTCAPACITY_EMPTY_ELEMENTDATA mc cl_u_DEFAULTCAPACITY_EMPTY_ELEMENTDATA h0 n0 _ T18.heap _
    rw [e18]
    exact ⟨ed_2, ke_2, rfl, N18, K18, gged_2, szzed_2, F21, F22, Fw18, F24, F26, F25, P2_0⟩
theorem d22_0 : decode jdk_38_method_24_code 0 = .ok (.iload_n 3, 1) := by decide +kernel
theorem d22_1 : decode jdk_38_method_24_code 1 = .ok (.aload_n 2, 1) := by decide +kernel
theorem d22_2 : decode jdk_38_method_24_code 2 = .ok (.arraylength, 1) := by decide +kernel
theorem d22_3 : decode jdk_38_method_24_code 3 = .ok (.if_icmp .ne 8, 3) := by decide +kernel
theorem d22_11 : decode jdk_38_method_24_code 11 = .ok (.aload_n 2, 1) := by decide +kernel
theorem d22_12 : decode jdk_38_method_24_code 12 = .ok (.iload_n 3, 1) := by decide +kernel
theorem d22_13 : decode jdk_38_method_24_code 13 = .ok (.aload_n 1, 1) := by decide +kernel
theorem d22_14 : decode jdk_38_method_24_code 14 = .ok (.aastore, 1) := by decide +kernel
theorem d22_15 : decode jdk_38_method_24_code 15 = .ok (.aload_n 0, 1) := by decide +kernel
theorem d22_16 : decode jdk_38_method_24_code 16 = .ok (.iload_n 3, 1) := by decide +kernel
theorem d22_17 : decode jdk_38_method_24_code 17 = .ok (.iconst 1, 1) := by decide +kernel
theorem d22_18 : decode jdk_38_method_24_code 18 = .ok (.iadd, 1) := by decide +kernel
theorem d22_19 : decode jdk_38_method_24_code 19 = .ok (.putfield 48, 3) := by decide +kernel
theorem d22_22 : decode jdk_38_method_24_code 22 = .ok (.return_, 1) := by decide +kernel
theorem ef_22 (m : MethodId) (a22_0 : Addr) (a22_1 : Addr) (ed : Addr) : entryFrame m #[(.ref a22_0), (.ref a22_1), (.ref ed), (.int (1 : Int32))] 4 = mkF m 0 #[.val (.ref a22_0), .val (.ref a22_1), .val (.ref ed), .val (.int (1 : Int32))] [] := by first | (simp [entryFrame, mkF, argsToLocals, Value.category]; done) | rfl
def Q22 (Z : State) (a22_0 : Addr) (a22_1 : Addr) (ed : Addr) (mc : Int32) (ke : ClassId) (xe0 : Addr) (h0 : Heap) (n0 : Nat) (v : Option Value) (h : Heap) (L : List Loc) : Prop := v = none ∧ Fr n0 L ∧ Keep h0 h [a22_0, ed] ∧ Exa Z h a22_0 "java/util/ArrayList" ∧ Fld Z h a22_0 "java/util/AbstractList" "modCount" "I" (.int mc) ∧ Fld Z h a22_0 "java/util/ArrayList" "size" "I" (.int (2 : Int32)) ∧ Fld Z h a22_0 "java/util/ArrayList" "elementData" "[Ljava/lang/Object;" (.ref ed) ∧ Arv Z h ed ke (.object "java/lang/Object") (10 : Int32) [(.ref xe0), (.ref a22_1), .null, .null, .null, .null, .null, .null, .null, .null] .null ∧ Exa Z h ed "[Ljava/lang/Object;"
set_option maxRecDepth 65536 in
set_option maxHeartbeats 40000000 in
theorem rm22 (l : Launch) (Z : State) (a0 : Array Value) (hw : ∀ d ∈ tables_1, d.before a0 Z = true) (ws : List Jvm.Cond) (a22_0 : Addr) (a22_1 : Addr) (ed : Addr) (mc : Int32) (ke : ClassId) (xe0 : Addr) (h0 : Heap) (n0 : Nat) (Z0 : n0 ≤ h0.size) (Ea : Exa Z h0 a22_0 "java/util/ArrayList") (Fm : Fld Z h0 a22_0 "java/util/AbstractList" "modCount" "I" (.int mc)) (Fz : Fld Z h0 a22_0 "java/util/ArrayList" "size" "I" (.int (1 : Int32))) (Eo : Exa Z h0 a22_1 "com/example/batchrake/batchrake/DeleteReport$Failure") (Fe : Fld Z h0 a22_0 "java/util/ArrayList" "elementData" "[Ljava/lang/Object;" (.ref ed)) (Ve : Arv Z h0 ed ke (.object "java/lang/Object") (10 : Int32) [(.ref xe0), .null, .null, .null, .null, .null, .null, .null, .null, .null] .null) (Ed : Exa Z h0 ed "[Ljava/lang/Object;") (hov : Ovr Z ke "java/lang/Object") (hne : ed ≠ a22_0) (g_a22_0 : n0 ≤ a22_0) (g_ed : n0 ≤ ed) :
    MetFree l (⟨"java/util/ArrayList", "add", "(Ljava/lang/Object;[Ljava/lang/Object;I)V"⟩ : MethodName) (head1 (Jvm.Cond.code (⟨"java/util/ArrayList", "add", "(Ljava/lang/Object;[Ljava/lang/Object;I)V"⟩ : MethodName) jdk_38_method_24_code 4 none :: ws) ({ frames := 0, cells := 0, slots := 0, locals := 0 } : Room)) (fun a U => a = #[(.ref a22_0), (.ref a22_1), (.ref ed), (.int (1 : Int32))] ∧ Z.Warmed39 U.vm ∧ U.heap = h0) (fun _ _ _ _ _ => True) (fun _ U o U' => ∃ v L, o = .returned v ∧ Q22 Z a22_0 a22_1 ed mc ke xe0 h0 n0 v U'.heap L ∧ FrameEnd U o U' L ({ frames := 0, cells := 0, slots := 0, locals := 0 } : Room).cells ({ frames := 0, cells := 0, slots := 0, locals := 0 } : Room).slots) := by
  refine MetFree.of_bodySF (plainFor_of_name pn_2) hisR ?_
  intro p e s m args below meth c s₁ Bd hml0 hP hK
  obtain ⟨rfl, hZ, hh⟩ := hP
  have hx := Bd.exec
  have hby := Bd.bytes
  have hml : c.maxLocals = 4 := hml0
  have hown : s.vm.findClass "java/util/ArrayList" = some m.cls := findClass_of_methodNamed Bd.named
  have hnm := (name_of_methodNamed Bd.named Bd.method).1
  have X0 : Stand p l e ({ frames := 0, cells := 0, slots := 0, locals := 0 } : Room) s m #[(.ref a22_0), (.ref a22_1), (.ref ed), (.int (1 : Int32))] below meth c s₁ [] 0 0 := Stand.of_body Bd
  have e0 : s₁.heap = h0 := by rw [← hh, Bd.state]; rfl
  have N0 := Fr.nil n0
  have pre0 : ∀ t, Steps p.tables e below (s₁.setTop (mkF m 0 #[.val (.ref a22_0), .val (.ref a22_1), .val (.ref ed), .val (.int (1 : Int32))] [])) t → Steps p.tables e below (s₁.setTop (entryFrame m #[(.ref a22_0), (.ref a22_1), (.ref ed), (.int (1 : Int32))] 4)) t := fun t k => castTop (ef_22 m a22_0 a22_1 ed) k
  obtain ⟨cl1, Ar1, qc1, Sz1, Nn1, Hh1, Gg1⟩ := (id Ve)
  obtain ⟨cl2, Ar2, qc2, Sz2, Nn2, Hh2, Gg2⟩ := (id Ve)
  have hin2 : ¬ ((1 : Int32) < 0 ∨ cl2.slots.size ≤ ((1 : Int32)).toNatClampNeg) := inb_of Sz2 ⟨by decide, by decide⟩
  obtain ⟨T2, h2, X2, e2, W2, st2⟩ := stR X0 hx hZ e0 Ar2 (j := (1 : Int32)) hin2 rfl (Sto.ofV Ar2 qc2 hov (Ins.of_exa Eo (wd hw 146 rfl))) (g := (mkF m 14 #[.val (.ref a22_0), .val (.ref a22_1), .val (.ref ed), .val (.int (1 : Int32))] [(.ref a22_1), (.int (1 : Int32)), (.ref ed)])) rfl rfl (hb hby d22_14)
  have F3 := Ea.wr W2
  have F4 := Fm.other W2 (Or.inl (Ne.symm hne))
  have F5 := Fz.other W2 (Or.inl (Ne.symm hne))
  have F6 := Eo.wr W2
  have F7 := Fe.other W2 (Or.inl (Ne.symm hne))
  have F9 := Ed.wr W2
  have V2 : Arv Z h2 ed ke (.object "java/lang/Object") (10 : Int32) [(.ref xe0), (.ref a22_1), .null, .null, .null, .null, .null, .null, .null, .null] .null := Arv.set Ar2 qc2 Sz2 Nn2 Hh2 Gg2 rfl W2 1 rfl (Nat.le_of_ble_eq_true rfl)
  have N2 := Fr.snoc X2 N0 g_ed
  have K2 : Keep h0 h2 [a22_0, ed] := (Keep.refl h0 [a22_0, ed]).wr W2 (Or.inl (List.mem_of_getElem? (i := 1) rfl))
  have Zs2 : n0 ≤ h2.size := by rw [W2.size]; exact Z0
  obtain ⟨T10, h10, X10, e10, W10, st10⟩ := putF X2 hx hZ hown (host := "") (Or.inl (wd hw 123 rfl)) Via.refl e2 F5 F3 (Or.inl (wd hw 124 rfl)) (wd hw 22 rfl) (ty := .int) (by decide) rfl rfl (g := (mkF m 19 #[.val (.ref a22_0), .val (.ref a22_1), .val (.ref ed), .val (.int (1 : Int32))] [(.int (2 : Int32)), (.ref a22_0)])) rfl rfl (hb hby d22_19)
  have Fw10 : Fld Z h10 a22_0 "java/util/ArrayList" "size" "I" (.int (2 : Int32)) := F5.same W10
  have F11 := F3.wr W10
  have F12 := F4.other W10 (Or.inr (slot_ne (Or.inl (wd hw 41 rfl)) (Or.inl (wd hw 124 rfl)) (by decide) (t := .int) (t' := .int) (by decide) (by decide)))
  have F14 := F6.wr W10
  have F15 := F7.other W10 (Or.inr (slot_ne (Or.inl (wd hw 44 rfl)) (Or.inl (wd hw 124 rfl)) (by decide) (t := (.array (.object "java/lang/Object"))) (t' := .int) (by decide) (by decide)))
  have F16 := F9.wr W10
  have F17 := V2.other W10 hne
  have N10 := Fr.snoc X10 N2 g_a22_0
  have K10 : Keep h0 h10 [a22_0, ed] := K2.wr W10 (Or.inl (List.mem_of_getElem? (i := 0) rfl))
  have Zs10 : n0 ≤ h10.size := by rw [W10.size]; exact Zs2
  have k18 : ∀ t, Steps p.tables e below (T10.setTop (mkF m 22 #[.val (.ref a22_0), .val (.ref a22_1), .val (.ref ed), .val (.int (1 : Int32))] [])) t → Steps p.tables e below (s₁.setTop (entryFrame m #[(.ref a22_0), (.ref a22_1), (.ref ed), (.int (1 : Int32))] 4)) t := by
    intro t k
    refine pre0 t ?_
    refine XS.iloadN X0.here hx rfl (hb hby d22_0) rfl ?_
    refine XS.aloadN X0.here hx rfl (hb hby d22_1) rfl rfl ?_
    refine X0.arraylength hx (by rw [e0]; exact Ar1.1) (State.isArrayOf_alike hZ.alike Ar1.2.1) (g := (mkF m 2 #[.val (.ref a22_0), .val (.ref a22_1), .val (.ref ed), .val (.int (1 : Int32))] [(.ref ed), (.int (1 : Int32))])) rfl rfl (hb hby d22_2) _ ?_
    rw [len_of Sz1 Nn1]
    refine XS.icmpYes X0.here hx rfl (pc0 := 3) (pc' := 11) rfl (hb hby d22_3) rfl (feq (by decide : ¬ ((1 : Int32) = (10 : Int32)))).2 (by decide) (by decide) ?_
    refine XS.aloadN X0.here hx rfl (hb hby d22_11) rfl rfl ?_
    refine XS.iloadN X0.here hx rfl (hb hby d22_12) rfl ?_
    refine XS.aloadN X0.here hx rfl (hb hby d22_13) rfl rfl ?_
    refine st2 _ ?_
    refine XS.aloadN X2.here hx rfl (hb hby d22_15) rfl rfl ?_
    refine XS.iloadN X2.here hx rfl (hb hby d22_16) rfl ?_
    refine XS.iconst X2.here hx rfl (hb hby d22_17) ?_
    refine XS.iadd X2.here hx rfl (hb hby d22_18) rfl ?_
    refine st10 _ ?_
    exact k
  obtain ⟨fs, hr, hrun, hended, hW, hsame⟩ := X10.leave (v := none) (fun _ => rfl)
  refine ⟨_, _, k18 _ ?_, hrun, hended, _, _, rfl, ?_, ⟨_, rfl⟩, hW, hsame.mono (by decide) (by decide)⟩
  · exact X10.returnOut hx Bd.returns (hb hby d22_22) hr
  · show Q22 Z a22_0 a22_1 ed mc ke xe0 h0 n0 _ T10.heap _
    rw [e10]
    exact ⟨rfl, N10, K10, F11, F12, Fw10, F15, F17, F16⟩
theorem pd_9 : parseMethodDescriptor "(Ljava/lang/Object;[Ljava/lang/Object;I)V" = some ⟨[(.object "java/lang/Object"), (.array (.object "java/lang/Object")), .int], none⟩ := by decide +kernel
theorem d23_0 : decode jdk_38_method_25_code 0 = .ok (.aload_n 0, 1) := by decide +kernel
theorem d23_1 : decode jdk_38_method_25_code 1 = .ok (.dup, 1) := by decide +kernel
theorem d23_2 : decode jdk_38_method_25_code 2 = .ok (.getfield 63, 3) := by decide +kernel
theorem d23_5 : decode jdk_38_method_25_code 5 = .ok (.iconst 1, 1) := by decide +kernel
theorem d23_6 : decode jdk_38_method_25_code 6 = .ok (.iadd, 1) := by decide +kernel
theorem d23_7 : decode jdk_38_method_25_code 7 = .ok (.putfield 63, 3) := by decide +kernel
theorem d23_10 : decode jdk_38_method_25_code 10 = .ok (.aload_n 0, 1) := by decide +kernel
theorem d23_11 : decode jdk_38_method_25_code 11 = .ok (.aload_n 1, 1) := by decide +kernel
theorem d23_12 : decode jdk_38_method_25_code 12 = .ok (.aload_n 0, 1) := by decide +kernel
theorem d23_13 : decode jdk_38_method_25_code 13 = .ok (.getfield 9, 3) := by decide +kernel
theorem d23_16 : decode jdk_38_method_25_code 16 = .ok (.aload_n 0, 1) := by decide +kernel
theorem d23_17 : decode jdk_38_method_25_code 17 = .ok (.getfield 48, 3) := by decide +kernel
theorem d23_20 : decode jdk_38_method_25_code 20 = .ok (.invokevirtual 131, 3) := by decide +kernel
theorem d23_23 : decode jdk_38_method_25_code 23 = .ok (.iconst 1, 1) := by decide +kernel
theorem d23_24 : decode jdk_38_method_25_code 24 = .ok (.ireturn, 1) := by decide +kernel
theorem ef_23 (m : MethodId) (a23_0 : Addr) (a23_1 : Addr) : entryFrame m #[(.ref a23_0), (.ref a23_1)] 2 = mkF m 0 #[.val (.ref a23_0), .val (.ref a23_1)] [] := by first | (simp [entryFrame, mkF, argsToLocals, Value.category]; done) | rfl
def Q23 (Z : State) (a23_0 : Addr) (a23_1 : Addr) (mc : Int32) (u_DEFAULTCAPACITY_EMPTY_ELEMENTDATA : Addr) (cl_u_DEFAULTCAPACITY_EMPTY_ELEMENTDATA : Cell) (h0 : Heap) (n0 : Nat) (v : Option Value) (h : Heap) (L : List Loc) : Prop := ∃ en : Addr, ∃ kn : ClassId, v = some (.int (1 : Int32)) ∧ Fr n0 L ∧ Keep h0 h [a23_0] ∧ n0 ≤ en ∧ h0.size ≤ en ∧ Exa Z h a23_0 "java/util/ArrayList" ∧ Fld Z h a23_0 "java/util/AbstractList" "modCount" "I" (.int (mc + (1 : Int32))) ∧ Fld Z h a23_0 "java/util/ArrayList" "size" "I" (.int (1 : Int32)) ∧ Fld Z h a23_0 "java/util/ArrayList" "elementData" "[Ljava/lang/Object;" (.ref en) ∧ Arv Z h en kn (.object "java/lang/Object") (10 : Int32) [(.ref a23_1), .null, .null, .null, .null, .null, .null, .null, .null, .null] .null ∧ Exa Z h en "[Ljava/lang/Object;" ∧ Ovr Z kn "java/lang/Object"
set_option maxRecDepth 65536 in
set_option maxHeartbeats 40000000 in
theorem rm23 (l : Launch) (Z : State) (a0 : Array Value) (hw : ∀ d ∈ tables_1, d.before a0 Z = true) (ws : List Jvm.Cond) (a23_0 : Addr) (a23_1 : Addr) (mc : Int32) (u_DEFAULTCAPACITY_EMPTY_ELEMENTDATA : Addr) (cl_u_DEFAULTCAPACITY_EMPTY_ELEMENTDATA : Cell) (h0 : Heap) (n0 : Nat) (Z0 : n0 ≤ h0.size) (Ea : Exa Z h0 a23_0 "java/util/ArrayList") (Fm : Fld Z h0 a23_0 "java/util/AbstractList" "modCount" "I" (.int mc)) (Fz : Fld Z h0 a23_0 "java/util/ArrayList" "size" "I" (.int (0 : Int32))) (Eo : Exa Z h0 a23_1 "com/example/batchrake/batchrake/DeleteReport$Failure") (Fe : Fld Z h0 a23_0 "java/util/ArrayList" "elementData" "[Ljava/lang/Object;" (.ref u_DEFAULTCAPACITY_EMPTY_ELEMENTDATA)) (S_DEFAULTCAPACITY_EMPTY_ELEMENTDATA : Sta Z h0 "java/util/ArrayList" "DEFAULTCAPACITY_EMPTY_ELEMENTDATA" "[Ljava/lang/Object;" (.ref u_DEFAULTCAPACITY_EMPTY_ELEMENTDATA)) (V_u_DEFAULTCAPACITY_EMPTY_ELEMENTDATA : Arv Z h0 u_DEFAULTCAPACITY_EMPTY_ELEMENTDATA cl_u_DEFAULTCAPACITY_EMPTY_ELEMENTDATA.cls (.object "java/lang/Object") (0 : Int32) [] .null) (hno : a23_1 ≠ a23_0) (hnd : u_DEFAULTCAPACITY_EMPTY_ELEMENTDATA ≠ a23_0) (g_a23_0 : n0 ≤ a23_0) :
    MetFree l (⟨"java/util/ArrayList", "add", "(Ljava/lang/Object;)Z"⟩ : MethodName) (head1 (Jvm.Cond.code (⟨"java/util/ArrayList", "add", "(Ljava/lang/Object;)Z"⟩ : MethodName) jdk_38_method_25_code 2 (some .boolean) :: ws) ({ frames := 4, cells := 1, slots := 10, locals := 56 } : Room)) (fun a U => a = #[(.ref a23_0), (.ref a23_1)] ∧ Z.Warmed39 U.vm ∧ U.heap = h0) (fun _ _ _ _ _ => True) (fun _ U o U' => ∃ v L, o = .returned v ∧ Q23 Z a23_0 a23_1 mc u_DEFAULTCAPACITY_EMPTY_ELEMENTDATA cl_u_DEFAULTCAPACITY_EMPTY_ELEMENTDATA h0 n0 v U'.heap L ∧ FrameEnd U o U' L ({ frames := 4, cells := 1, slots := 10, locals := 56 } : Room).cells ({ frames := 4, cells := 1, slots := 10, locals := 56 } : Room).slots) := by
  refine MetFree.of_bodySF (plainFor_of_name pn_2) hisR ?_
  intro p e s m args below meth c s₁ Bd hml0 hP hK
  obtain ⟨rfl, hZ, hh⟩ := hP
  have hx := Bd.exec
  have hby := Bd.bytes
  have hml : c.maxLocals = 2 := hml0
  have hown : s.vm.findClass "java/util/ArrayList" = some m.cls := findClass_of_methodNamed Bd.named
  have hnm := (name_of_methodNamed Bd.named Bd.method).1
  have X0 : Stand p l e ({ frames := 4, cells := 1, slots := 10, locals := 56 } : Room) s m #[(.ref a23_0), (.ref a23_1)] below meth c s₁ [] 0 0 := Stand.of_body Bd
  have e0 : s₁.heap = h0 := by rw [← hh, Bd.state]; rfl
  have N0 := Fr.nil n0
  have pre0 : ∀ t, Steps p.tables e below (s₁.setTop (mkF m 0 #[.val (.ref a23_0), .val (.ref a23_1)] [])) t → Steps p.tables e below (s₁.setTop (entryFrame m #[(.ref a23_0), (.ref a23_1)] 2)) t := fun t k => castTop (ef_23 m a23_0 a23_1) k
  obtain ⟨T1, X1, e1, st1⟩ := getF X0 hx hZ hown (host := "") (Or.inl (wd hw 121 rfl)) (Via.of (wd hw 122 rfl)) e0 Fm (g := (mkF m 2 #[.val (.ref a23_0), .val (.ref a23_1)] [(.ref a23_0), (.ref a23_0)])) rfl rfl (hb hby d23_2)
  obtain ⟨T2, h2, X2, e2, W2, st2⟩ := putF X1 hx hZ hown (host := "") (Or.inl (wd hw 121 rfl)) (Via.of (wd hw 122 rfl)) e1 Fm Ea (Or.inl (wd hw 41 rfl)) (wd hw 22 rfl) (ty := .int) (by decide) rfl rfl (g := (mkF m 7 #[.val (.ref a23_0), .val (.ref a23_1)] [(.int (mc + (1 : Int32))), (.ref a23_0)])) rfl rfl (hb hby d23_7)
  have Fw2 : Fld Z h2 a23_0 "java/util/AbstractList" "modCount" "I" (.int (mc + (1 : Int32))) := Fm.same W2
  have F3 := Ea.wr W2
  have F5 := Fz.other W2 (Or.inr (slot_ne (Or.inl (wd hw 124 rfl)) (Or.inl (wd hw 41 rfl)) (by decide) (t := .int) (t' := .int) (by decide) (by decide)))
  have F6 := Eo.wr W2
  have F7 := Fe.other W2 (Or.inr (slot_ne (Or.inl (wd hw 44 rfl)) (Or.inl (wd hw 41 rfl)) (by decide) (t := (.array (.object "java/lang/Object"))) (t' := .int) (by decide) (by decide)))
  have F8 := S_DEFAULTCAPACITY_EMPTY_ELEMENTDATA.wr W2
  have F9 := V_u_DEFAULTCAPACITY_EMPTY_ELEMENTDATA.other W2 hnd
  have N2 := Fr.snoc X2 N0 g_a23_0
  have K2 : Keep h0 h2 [a23_0] := (Keep.refl h0 [a23_0]).wr W2 (Or.inl (List.mem_of_getElem? (i := 0) rfl))
  have Zs2 : n0 ≤ h2.size := by rw [W2.size]; exact Z0
  obtain ⟨T10, X10, e10, st10⟩ := getF X2 hx hZ hown (host := "") (Or.inl (wd hw 43 rfl)) Via.refl e2 F7 (g := (mkF m 13 #[.val (.ref a23_0), .val (.ref a23_1)] [(.ref a23_0), (.ref a23_1), (.ref a23_0)])) rfl rfl (hb hby d23_13)
  obtain ⟨T11, X11, e11, st11⟩ := getF X10 hx hZ hown (host := "") (Or.inl (wd hw 123 rfl)) Via.refl e10 F5 (g := (mkF m 17 #[.val (.ref a23_0), .val (.ref a23_1)] [(.ref a23_0), (.ref u_DEFAULTCAPACITY_EMPTY_ELEMENTDATA), (.ref a23_1), (.ref a23_0)])) rfl rfl (hb hby d23_17)
  obtain ⟨cq12, q12, q12'⟩ := F3.cell
  obtain ⟨_, _, ⟨T12, L12, k12, n12⟩, -, X12, ⟨Lc12, hQ12, l12, y12, z12⟩, st12⟩ := X11.privateBack hx (y := (⟨"java/util/ArrayList", "add", "(Ljava/lang/Object;[Ljava/lang/Object;I)V"⟩ : MethodName)) hown (mvT hZ (wd hw 125 rfl)) (mvT hZ (wd hw 126 rfl)) (mvT hZ (wd hw 128 rfl)) (Cond.privateMethod_at (mvP hZ (wd hw 127 rfl) (args := #[]))) (mvT hZ (wd hw 129 rfl)) (by decide) (backOf (W := 0) (rm21 l Z a0 hw [] a23_0 a23_1 u_DEFAULTCAPACITY_EMPTY_ELEMENTDATA (mc + (1 : Int32)) cl_u_DEFAULTCAPACITY_EMPTY_ELEMENTDATA h2 n0 Zs2 F3 Fw2 F5 F6 F7 F8 F9 g_a23_0) hZ (wd hw 129 rfl) (wd hw 23 rfl) (by decide) (by decide)) (g := (mkF m 20 #[.val (.ref a23_0), .val (.ref a23_1)] [(.int (0 : Int32)), (.ref u_DEFAULTCAPACITY_EMPTY_ELEMENTDATA), (.ref a23_1), (.ref a23_0)])) rfl (by rw [hml]; rfl) (Steps.refl _) (a := a23_0) (by rw [e11]; exact q12) q12' (argsL := [(.ref a23_1), (.ref u_DEFAULTCAPACITY_EMPTY_ELEMENTDATA), (.int (0 : Int32))]) (rest := []) (lenOf pd_9 rfl) rfl (by show 2 * 0 + _ ≤ _; exact Nat.le_of_eq rfl) (hb hby d23_20) (fun _ _ => ⟨rfl, e11, (by decide : 0 + 1 ≤ _), (by decide : 0 + 10 ≤ _)⟩)
  dsimp only [Pt.U, Pt.locs, Pt.cells, Pt.slots] at X12 l12 y12 z12 st12 hQ12
  rw [l12, y12, z12] at X12
  obtain ⟨en_12, kn_12, rfl, N12q, Kc12, ggen_12, szen_12, G12_0, G12_1, G12_2, G12_3, G12_4, G12_5, P12_0⟩ := hQ12
  have ne13 : a23_0 ≠ en_12 := Nat.ne_of_lt (Nat.lt_of_lt_of_le F3.lt szen_12)
  have ne14 : a23_1 ≠ en_12 := Nat.ne_of_lt (Nat.lt_of_lt_of_le F6.lt szen_12)
  have ne15 : u_DEFAULTCAPACITY_EMPTY_ELEMENTDATA ≠ en_12 := Nat.ne_of_lt (Nat.lt_of_lt_of_le F9.lt szen_12)
  have szzen_12 : h0.size ≤ en_12 := Nat.le_trans K2.1 szen_12
  have Zs12 : n0 ≤ T12.heap.size := Nat.le_trans Zs2 Kc12.1
  have K12 : Keep h0 T12.heap [a23_0] := K2.trans Kc12 (allS (Or.inl (List.mem_of_getElem? (i := 0) rfl)) all0)
  have F16 := F6.keep Kc12
  have F17 := own_stakeep F8 Kc12 (allS (own_nsE F3) all0)
  have F18 := F9.keep Kc12 (ninS hnd nin0)
  have N12 := Fr.app N2 N12q
  have k19 : ∀ t, Steps p.tables e below (T12.setTop (mkF m 24 #[.val (.ref a23_0), .val (.ref a23_1)] [(.int (1 : Int32))])) t → Steps p.tables e below (s₁.setTop (entryFrame m #[(.ref a23_0), (.ref a23_1)] 2)) t := by
    intro t k
    refine pre0 t ?_
    refine XS.aloadN X0.here hx rfl (hb hby d23_0) rfl rfl ?_
    refine XS.dup X0.here hx rfl (hb hby d23_1) rfl rfl ?_
    refine st1 _ ?_
    refine XS.iconst X1.here hx rfl (hb hby d23_5) ?_
    refine XS.iadd X1.here hx rfl (hb hby d23_6) rfl ?_
    refine st2 _ ?_
    refine XS.aloadN X2.here hx rfl (hb hby d23_10) rfl rfl ?_
    refine XS.aloadN X2.here hx rfl (hb hby d23_11) rfl rfl ?_
    refine XS.aloadN X2.here hx rfl (hb hby d23_12) rfl rfl ?_
    refine st10 _ ?_
    refine XS.aloadN X10.here hx rfl (hb hby d23_16) rfl rfl ?_
    refine st11 _ ?_
    refine st12.trans ?_
    show Steps p.tables e below (T12.setTop (mkF m 23 #[.val (.ref a23_0), .val (.ref a23_1)] [])) _
    refine XS.iconst X12.here hx rfl (hb hby d23_23) ?_
    exact k
  obtain ⟨fs, hr, hrun, hended, hW, hsame⟩ := X12.leave (v := some (.int (1 : Int32))) (fun h => by rw [Bd.returns] at h; cases h)
  refine ⟨_, _, k19 _ ?_, hrun, hended, _, _, rfl, ?_, ⟨_, rfl⟩, hW, hsame.mono (by decide) (by decide)⟩
  · exact retN X12 hx (t := .boolean) Bd.returns (by simp) (hb hby d23_24) hr
  · show Q23 Z a23_0 a23_1 mc u_DEFAULTCAPACITY_EMPTY_ELEMENTDATA cl_u_DEFAULTCAPACITY_EMPTY_ELEMENTDATA h0 n0 _ T12.heap _
    exact ⟨en_12, kn_12, rfl, N12, K12, ggen_12, szzen_12, G12_0, G12_1, G12_2, G12_3, G12_4, G12_5, P12_0⟩
theorem d24_0 : decode jdk_38_method_25_code 0 = .ok (.aload_n 0, 1) := by decide +kernel
theorem d24_1 : decode jdk_38_method_25_code 1 = .ok (.dup, 1) := by decide +kernel
theorem d24_2 : decode jdk_38_method_25_code 2 = .ok (.getfield 63, 3) := by decide +kernel
theorem d24_5 : decode jdk_38_method_25_code 5 = .ok (.iconst 1, 1) := by decide +kernel
theorem d24_6 : decode jdk_38_method_25_code 6 = .ok (.iadd, 1) := by decide +kernel
theorem d24_7 : decode jdk_38_method_25_code 7 = .ok (.putfield 63, 3) := by decide +kernel
theorem d24_10 : decode jdk_38_method_25_code 10 = .ok (.aload_n 0, 1) := by decide +kernel
theorem d24_11 : decode jdk_38_method_25_code 11 = .ok (.aload_n 1, 1) := by decide +kernel
theorem d24_12 : decode jdk_38_method_25_code 12 = .ok (.aload_n 0, 1) := by decide +kernel
theorem d24_13 : decode jdk_38_method_25_code 13 = .ok (.getfield 9, 3) := by decide +kernel
theorem d24_16 : decode jdk_38_method_25_code 16 = .ok (.aload_n 0, 1) := by decide +kernel
theorem d24_17 : decode jdk_38_method_25_code 17 = .ok (.getfield 48, 3) := by decide +kernel
theorem d24_20 : decode jdk_38_method_25_code 20 = .ok (.invokevirtual 131, 3) := by decide +kernel
theorem d24_23 : decode jdk_38_method_25_code 23 = .ok (.iconst 1, 1) := by decide +kernel
theorem d24_24 : decode jdk_38_method_25_code 24 = .ok (.ireturn, 1) := by decide +kernel
theorem ef_24 (m : MethodId) (a24_0 : Addr) (a24_1 : Addr) : entryFrame m #[(.ref a24_0), (.ref a24_1)] 2 = mkF m 0 #[.val (.ref a24_0), .val (.ref a24_1)] [] := by first | (simp [entryFrame, mkF, argsToLocals, Value.category]; done) | rfl
def Q24 (Z : State) (a24_0 : Addr) (a24_1 : Addr) (mc : Int32) (ke : ClassId) (ed : Addr) (xe0 : Addr) (h0 : Heap) (n0 : Nat) (v : Option Value) (h : Heap) (L : List Loc) : Prop := v = some (.int (1 : Int32)) ∧ Fr n0 L ∧ Keep h0 h [a24_0, ed] ∧ Exa Z h a24_0 "java/util/ArrayList" ∧ Fld Z h a24_0 "java/util/AbstractList" "modCount" "I" (.int (mc + (1 : Int32))) ∧ Fld Z h a24_0 "java/util/ArrayList" "size" "I" (.int (2 : Int32)) ∧ Fld Z h a24_0 "java/util/ArrayList" "elementData" "[Ljava/lang/Object;" (.ref ed) ∧ Arv Z h ed ke (.object "java/lang/Object") (10 : Int32) [(.ref xe0), (.ref a24_1), .null, .null, .null, .null, .null, .null, .null, .null] .null ∧ Exa Z h ed "[Ljava/lang/Object;"
set_option maxRecDepth 65536 in
set_option maxHeartbeats 40000000 in
theorem rm24 (l : Launch) (Z : State) (a0 : Array Value) (hw : ∀ d ∈ tables_1, d.before a0 Z = true) (ws : List Jvm.Cond) (a24_0 : Addr) (a24_1 : Addr) (mc : Int32) (ke : ClassId) (ed : Addr) (xe0 : Addr) (h0 : Heap) (n0 : Nat) (Z0 : n0 ≤ h0.size) (Ea : Exa Z h0 a24_0 "java/util/ArrayList") (Fm : Fld Z h0 a24_0 "java/util/AbstractList" "modCount" "I" (.int mc)) (Fz : Fld Z h0 a24_0 "java/util/ArrayList" "size" "I" (.int (1 : Int32))) (Eo : Exa Z h0 a24_1 "com/example/batchrake/batchrake/DeleteReport$Failure") (Fe : Fld Z h0 a24_0 "java/util/ArrayList" "elementData" "[Ljava/lang/Object;" (.ref ed)) (Ve : Arv Z h0 ed ke (.object "java/lang/Object") (10 : Int32) [(.ref xe0), .null, .null, .null, .null, .null, .null, .null, .null, .null] .null) (Ed : Exa Z h0 ed "[Ljava/lang/Object;") (hno : a24_1 ≠ a24_0) (hov : Ovr Z ke "java/lang/Object") (hne : ed ≠ a24_0) (g_a24_0 : n0 ≤ a24_0) (g_ed : n0 ≤ ed) :
    MetFree l (⟨"java/util/ArrayList", "add", "(Ljava/lang/Object;)Z"⟩ : MethodName) (head1 (Jvm.Cond.code (⟨"java/util/ArrayList", "add", "(Ljava/lang/Object;)Z"⟩ : MethodName) jdk_38_method_25_code 2 (some .boolean) :: ws) ({ frames := 1, cells := 0, slots := 0, locals := 15 } : Room)) (fun a U => a = #[(.ref a24_0), (.ref a24_1)] ∧ Z.Warmed39 U.vm ∧ U.heap = h0) (fun _ _ _ _ _ => True) (fun _ U o U' => ∃ v L, o = .returned v ∧ Q24 Z a24_0 a24_1 mc ke ed xe0 h0 n0 v U'.heap L ∧ FrameEnd U o U' L ({ frames := 1, cells := 0, slots := 0, locals := 15 } : Room).cells ({ frames := 1, cells := 0, slots := 0, locals := 15 } : Room).slots) := by
  refine MetFree.of_bodySF (plainFor_of_name pn_2) hisR ?_
  intro p e s m args below meth c s₁ Bd hml0 hP hK
  obtain ⟨rfl, hZ, hh⟩ := hP
  have hx := Bd.exec
  have hby := Bd.bytes
  have hml : c.maxLocals = 2 := hml0
  have hown : s.vm.findClass "java/util/ArrayList" = some m.cls := findClass_of_methodNamed Bd.named
  have hnm := (name_of_methodNamed Bd.named Bd.method).1
  have X0 : Stand p l e ({ frames := 1, cells := 0, slots := 0, locals := 15 } : Room) s m #[(.ref a24_0), (.ref a24_1)] below meth c s₁ [] 0 0 := Stand.of_body Bd
  have e0 : s₁.heap = h0 := by rw [← hh, Bd.state]; rfl
  have N0 := Fr.nil n0
  have pre0 : ∀ t, Steps p.tables e below (s₁.setTop (mkF m 0 #[.val (.ref a24_0), .val (.ref a24_1)] [])) t → Steps p.tables e below (s₁.setTop (entryFrame m #[(.ref a24_0), (.ref a24_1)] 2)) t := fun t k => castTop (ef_24 m a24_0 a24_1) k
  obtain ⟨T1, X1, e1, st1⟩ := getF X0 hx hZ hown (host := "") (Or.inl (wd hw 121 rfl)) (Via.of (wd hw 122 rfl)) e0 Fm (g := (mkF m 2 #[.val (.ref a24_0), .val (.ref a24_1)] [(.ref a24_0), (.ref a24_0)])) rfl rfl (hb hby d24_2)
  obtain ⟨T2, h2, X2, e2, W2, st2⟩ := putF X1 hx hZ hown (host := "") (Or.inl (wd hw 121 rfl)) (Via.of (wd hw 122 rfl)) e1 Fm Ea (Or.inl (wd hw 41 rfl)) (wd hw 22 rfl) (ty := .int) (by decide) rfl rfl (g := (mkF m 7 #[.val (.ref a24_0), .val (.ref a24_1)] [(.int (mc + (1 : Int32))), (.ref a24_0)])) rfl rfl (hb hby d24_7)
  have Fw2 : Fld Z h2 a24_0 "java/util/AbstractList" "modCount" "I" (.int (mc + (1 : Int32))) := Fm.same W2
  have F3 := Ea.wr W2
  have F5 := Fz.other W2 (Or.inr (slot_ne (Or.inl (wd hw 124 rfl)) (Or.inl (wd hw 41 rfl)) (by decide) (t := .int) (t' := .int) (by decide) (by decide)))
  have F6 := Eo.wr W2
  have F7 := Fe.other W2 (Or.inr (slot_ne (Or.inl (wd hw 44 rfl)) (Or.inl (wd hw 41 rfl)) (by decide) (t := (.array (.object "java/lang/Object"))) (t' := .int) (by decide) (by decide)))
  have F8 := Ve.other W2 hne
  have F9 := Ed.wr W2
  have N2 := Fr.snoc X2 N0 g_a24_0
  have K2 : Keep h0 h2 [a24_0, ed] := (Keep.refl h0 [a24_0, ed]).wr W2 (Or.inl (List.mem_of_getElem? (i := 0) rfl))
  have Zs2 : n0 ≤ h2.size := by rw [W2.size]; exact Z0
  obtain ⟨T10, X10, e10, st10⟩ := getF X2 hx hZ hown (host := "") (Or.inl (wd hw 43 rfl)) Via.refl e2 F7 (g := (mkF m 13 #[.val (.ref a24_0), .val (.ref a24_1)] [(.ref a24_0), (.ref a24_1), (.ref a24_0)])) rfl rfl (hb hby d24_13)
  obtain ⟨T11, X11, e11, st11⟩ := getF X10 hx hZ hown (host := "") (Or.inl (wd hw 123 rfl)) Via.refl e10 F5 (g := (mkF m 17 #[.val (.ref a24_0), .val (.ref a24_1)] [(.ref a24_0), (.ref ed), (.ref a24_1), (.ref a24_0)])) rfl rfl (hb hby d24_17)
  obtain ⟨cq12, q12, q12'⟩ := F3.cell
  obtain ⟨_, _, ⟨T12, L12, k12, n12⟩, -, X12, ⟨Lc12, hQ12, l12, y12, z12⟩, st12⟩ := X11.privateBack hx (y := (⟨"java/util/ArrayList", "add", "(Ljava/lang/Object;[Ljava/lang/Object;I)V"⟩ : MethodName)) hown (mvT hZ (wd hw 125 rfl)) (mvT hZ (wd hw 126 rfl)) (mvT hZ (wd hw 128 rfl)) (Cond.privateMethod_at (mvP hZ (wd hw 127 rfl) (args := #[]))) (mvT hZ (wd hw 129 rfl)) (by decide) (backOf (W := 0) (rm22 l Z a0 hw [] a24_0 a24_1 ed (mc + (1 : Int32)) ke xe0 h2 n0 Zs2 F3 Fw2 F5 F6 F7 F8 F9 hov hne g_a24_0 g_ed) hZ (wd hw 129 rfl) (wd hw 23 rfl) (by decide) (by decide)) (g := (mkF m 20 #[.val (.ref a24_0), .val (.ref a24_1)] [(.int (1 : Int32)), (.ref ed), (.ref a24_1), (.ref a24_0)])) rfl (by rw [hml]; rfl) (Steps.refl _) (a := a24_0) (by rw [e11]; exact q12) q12' (argsL := [(.ref a24_1), (.ref ed), (.int (1 : Int32))]) (rest := []) (lenOf pd_9 rfl) rfl (by show 2 * 0 + _ ≤ _; exact Nat.le_of_eq rfl) (hb hby d24_20) (fun _ _ => ⟨rfl, e11, (by decide : 0 + 0 ≤ _), (by decide : 0 + 0 ≤ _)⟩)
  dsimp only [Pt.U, Pt.locs, Pt.cells, Pt.slots] at X12 l12 y12 z12 st12 hQ12
  rw [l12, y12, z12] at X12
  obtain ⟨rfl, N12q, Kc12, G12_0, G12_1, G12_2, G12_3, G12_4, G12_5⟩ := hQ12
  have Zs12 : n0 ≤ T12.heap.size := Nat.le_trans Zs2 Kc12.1
  have K12 : Keep h0 T12.heap [a24_0, ed] := K2.trans Kc12 (allS (Or.inl (List.mem_of_getElem? (i := 0) rfl)) (allS (Or.inl (List.mem_of_getElem? (i := 1) rfl)) all0))
  have F13 := F6.keep Kc12
  have N12 := Fr.app N2 N12q
  have k14 : ∀ t, Steps p.tables e below (T12.setTop (mkF m 24 #[.val (.ref a24_0), .val (.ref a24_1)] [(.int (1 : Int32))])) t → Steps p.tables e below (s₁.setTop (entryFrame m #[(.ref a24_0), (.ref a24_1)] 2)) t := by
    intro t k
    refine pre0 t ?_
    refine XS.aloadN X0.here hx rfl (hb hby d24_0) rfl rfl ?_
    refine XS.dup X0.here hx rfl (hb hby d24_1) rfl rfl ?_
    refine st1 _ ?_
    refine XS.iconst X1.here hx rfl (hb hby d24_5) ?_
    refine XS.iadd X1.here hx rfl (hb hby d24_6) rfl ?_
    refine st2 _ ?_
    refine XS.aloadN X2.here hx rfl (hb hby d24_10) rfl rfl ?_
    refine XS.aloadN X2.here hx rfl (hb hby d24_11) rfl rfl ?_
    refine XS.aloadN X2.here hx rfl (hb hby d24_12) rfl rfl ?_
    refine st10 _ ?_
    refine XS.aloadN X10.here hx rfl (hb hby d24_16) rfl rfl ?_
    refine st11 _ ?_
    refine st12.trans ?_
    show Steps p.tables e below (T12.setTop (mkF m 23 #[.val (.ref a24_0), .val (.ref a24_1)] [])) _
    refine XS.iconst X12.here hx rfl (hb hby d24_23) ?_
    exact k
  obtain ⟨fs, hr, hrun, hended, hW, hsame⟩ := X12.leave (v := some (.int (1 : Int32))) (fun h => by rw [Bd.returns] at h; cases h)
  refine ⟨_, _, k14 _ ?_, hrun, hended, _, _, rfl, ?_, ⟨_, rfl⟩, hW, hsame.mono (by decide) (by decide)⟩
  · exact retN X12 hx (t := .boolean) Bd.returns (by simp) (hb hby d24_24) hr
  · show Q24 Z a24_0 a24_1 mc ke ed xe0 h0 n0 _ T12.heap _
    exact ⟨rfl, N12, K12, G12_0, G12_1, G12_2, G12_3, G12_4, G12_5⟩
theorem pn_9 : plainName "java/util/Arrays" = true := by first | (simp [plainName, overriddenIn]; done) | decide +kernel
theorem d25_0 : decode jdk_65_method_120_code 0 = .ok (.aload_n 2, 1) := by decide +kernel
theorem d25_1 : decode jdk_65_method_120_code 1 = .ok (.ldc 110, 2) := by decide +kernel
theorem d25_3 : decode jdk_65_method_120_code 3 = .ok (.if_acmp .ne 10, 3) := by decide +kernel
theorem d25_6 : decode jdk_65_method_120_code 6 = .ok (.iload_n 1, 1) := by decide +kernel
theorem d25_7 : decode jdk_65_method_120_code 7 = .ok (.anewarray 2, 3) := by decide +kernel
theorem d25_10 : decode jdk_65_method_120_code 10 = .ok (.goto 14, 3) := by decide +kernel
theorem d25_24 : decode jdk_65_method_120_code 24 = .ok (.astore_n 3, 1) := by decide +kernel
theorem d25_25 : decode jdk_65_method_120_code 25 = .ok (.aload_n 0, 1) := by decide +kernel
theorem d25_26 : decode jdk_65_method_120_code 26 = .ok (.iconst 0, 1) := by decide +kernel
theorem d25_27 : decode jdk_65_method_120_code 27 = .ok (.aload_n 3, 1) := by decide +kernel
theorem d25_28 : decode jdk_65_method_120_code 28 = .ok (.iconst 0, 1) := by decide +kernel
theorem d25_29 : decode jdk_65_method_120_code 29 = .ok (.aload_n 0, 1) := by decide +kernel
theorem d25_30 : decode jdk_65_method_120_code 30 = .ok (.arraylength, 1) := by decide +kernel
theorem d25_31 : decode jdk_65_method_120_code 31 = .ok (.iload_n 1, 1) := by decide +kernel
theorem d25_32 : decode jdk_65_method_120_code 32 = .ok (.invokestatic 304, 3) := by decide +kernel
theorem d25_35 : decode jdk_65_method_120_code 35 = .ok (.invokestatic 150, 3) := by decide +kernel
theorem d25_38 : decode jdk_65_method_120_code 38 = .ok (.aload_n 3, 1) := by decide +kernel
theorem d25_39 : decode jdk_65_method_120_code 39 = .ok (.areturn, 1) := by decide +kernel
theorem ef_25 (m : MethodId) (u_DEFAULTCAPACITY_EMPTY_ELEMENTDATA : Addr) (mr : Addr) : entryFrame m #[(.ref u_DEFAULTCAPACITY_EMPTY_ELEMENTDATA), (.int (0 : Int32)), (.ref mr)] 4 = mkF m 0 #[.val (.ref u_DEFAULTCAPACITY_EMPTY_ELEMENTDATA), .val (.int (0 : Int32)), .val (.ref mr), .unset] [] := by first | (simp [entryFrame, mkF, argsToLocals, Value.category]; done) | rfl
def Q25 (Z : State) (u_DEFAULTCAPACITY_EMPTY_ELEMENTDATA : Addr) (mr : Addr) (cl_u_DEFAULTCAPACITY_EMPTY_ELEMENTDATA : Cell) (h0 : Heap) (n0 : Nat) (v : Option Value) (h : Heap) (L : List Loc) : Prop := ∃ cx : Addr, ∃ kc : ClassId, v = some (.ref cx) ∧ Fr n0 L ∧ Keep h0 h [] ∧ n0 ≤ cx ∧ h0.size ≤ cx ∧ Arv Z h cx kc (.object "java/lang/Object") (0 : Int32) [] .null
set_option maxRecDepth 65536 in
set_option maxHeartbeats 40000000 in
theorem rm25 (l : Launch) (Z : State) (a0 : Array Value) (hw : ∀ d ∈ tables_1, d.before a0 Z = true) (ws : List Jvm.Cond) (u_DEFAULTCAPACITY_EMPTY_ELEMENTDATA : Addr) (mr : Addr) (cl_u_DEFAULTCAPACITY_EMPTY_ELEMENTDATA : Cell) (h0 : Heap) (n0 : Nat) (Z0 : n0 ≤ h0.size) (V_u_DEFAULTCAPACITY_EMPTY_ELEMENTDATA : Arv Z h0 u_DEFAULTCAPACITY_EMPTY_ELEMENTDATA cl_u_DEFAULTCAPACITY_EMPTY_ELEMENTDATA.cls (.object "java/lang/Object") (0 : Int32) [] .null) (hmir : Mir Z "[Ljava/lang/Object;" mr) :
    MetFree l (⟨"java/util/Arrays", "copyOf", "([Ljava/lang/Object;ILjava/lang/Class;)[Ljava/lang/Object;"⟩ : MethodName) (head1 (Jvm.Cond.code (⟨"java/util/Arrays", "copyOf", "([Ljava/lang/Object;ILjava/lang/Class;)[Ljava/lang/Object;"⟩ : MethodName) jdk_65_method_120_code 4 (some (.array (.object "java/lang/Object"))) :: ws) ({ frames := 1, cells := 1, slots := 0, locals := 40 } : Room)) (fun a U => a = #[(.ref u_DEFAULTCAPACITY_EMPTY_ELEMENTDATA), (.int (0 : Int32)), (.ref mr)] ∧ Z.Warmed39 U.vm ∧ U.heap = h0) (fun _ _ _ _ _ => True) (fun _ U o U' => ∃ v L, o = .returned v ∧ Q25 Z u_DEFAULTCAPACITY_EMPTY_ELEMENTDATA mr cl_u_DEFAULTCAPACITY_EMPTY_ELEMENTDATA h0 n0 v U'.heap L ∧ FrameEnd U o U' L ({ frames := 1, cells := 1, slots := 0, locals := 40 } : Room).cells ({ frames := 1, cells := 1, slots := 0, locals := 40 } : Room).slots) := by
  refine MetFree.of_bodySF (plainFor_of_name pn_9) hisR ?_
  intro p e s m args below meth c s₁ Bd hml0 hP hK
  obtain ⟨rfl, hZ, hh⟩ := hP
  have hx := Bd.exec
  have hby := Bd.bytes
  have hml : c.maxLocals = 4 := hml0
  have hown : s.vm.findClass "java/util/Arrays" = some m.cls := findClass_of_methodNamed Bd.named
  have hnm := (name_of_methodNamed Bd.named Bd.method).1
  have X0 : Stand p l e ({ frames := 1, cells := 1, slots := 0, locals := 40 } : Room) s m #[(.ref u_DEFAULTCAPACITY_EMPTY_ELEMENTDATA), (.int (0 : Int32)), (.ref mr)] below meth c s₁ [] 0 0 := Stand.of_body Bd
  have e0 : s₁.heap = h0 := by rw [← hh, Bd.state]; rfl
  have N0 := Fr.nil n0
  have pre0 : ∀ t, Steps p.tables e below (s₁.setTop (mkF m 0 #[.val (.ref u_DEFAULTCAPACITY_EMPTY_ELEMENTDATA), .val (.int (0 : Int32)), .val (.ref mr), .unset] [])) t → Steps p.tables e below (s₁.setTop (entryFrame m #[(.ref u_DEFAULTCAPACITY_EMPTY_ELEMENTDATA), (.int (0 : Int32)), (.ref mr)] 4)) t := fun t k => castTop (ef_25 m u_DEFAULTCAPACITY_EMPTY_ELEMENTDATA mr) k
  obtain ⟨T1, X1, e1, st1⟩ := own_ldcm X0 hx hZ hown (wd hw 186 rfl) e0 hmir (g := (mkF m 1 #[.val (.ref u_DEFAULTCAPACITY_EMPTY_ELEMENTDATA), .val (.int (0 : Int32)), .val (.ref mr), .unset] [(.ref mr)])) rfl (hb hby d25_1)
  obtain ⟨b2, g2⟩ : ∃ z, z = h0.size := ⟨_, rfl⟩
  obtain ⟨T2, h2, k2, X2, e2, E2, A2, O2, st2⟩ := newR X1 hx hZ hown (wd hw 187 rfl) (wd hw 145 rfl) e1 (g := (mkF m 7 #[.val (.ref u_DEFAULTCAPACITY_EMPTY_ELEMENTDATA), .val (.int (0 : Int32)), .val (.ref mr), .unset] [(.int (0 : Int32))])) rfl (hb hby d25_7) rfl (by decide) (cap := 0) (by decide) (by decide) (by decide) (by decide)
  rw [← g2] at A2 st2
  have ne3 : u_DEFAULTCAPACITY_EMPTY_ELEMENTDATA ≠ b2 := Nat.ne_of_lt (Nat.lt_of_lt_of_le V_u_DEFAULTCAPACITY_EMPTY_ELEMENTDATA.lt (Nat.le_of_eq g2.symm))
  have gg2 : n0 ≤ b2 := Nat.le_trans Z0 (Nat.le_of_eq g2.symm)
  have sz2 : h0.size ≤ b2 := Nat.le_trans (Keep.refl h0 []).1 (Nat.le_of_eq g2.symm)
  have Zs2 : n0 ≤ h2.size := Nat.le_trans Z0 E2.1
  have K2 : Keep h0 h2 [] := (Keep.refl h0 []).ext E2
  have F4 := V_u_DEFAULTCAPACITY_EMPTY_ELEMENTDATA.ext E2
  have V2 : Arv Z h2 b2 k2 (.object "java/lang/Object") (0 : Int32) [] .null := (Arv.new A2 (by decide))
  obtain ⟨cl5, Ar5, qc5, Sz5, Nn5, Hh5, Gg5⟩ := (id F4)
  obtain ⟨_, _, ⟨T6, L6, k6, n6⟩, -, X6, ⟨Lc6, hQ6, l6, y6, z6⟩, st6⟩ := Jvm.LawKit.callS X2 hx (y := (⟨"java/lang/Math", "min", "(II)I"⟩ : MethodName)) hown (mvT hZ (wd hw 188 rfl)) (mvT hZ (wd hw 189 rfl)) (mvT hZ (wd hw 142 rfl)) (mvT hZ (wd hw 190 rfl)) (by decide) (backOf (W := 4) (rm17 l Z a0 hw []  h2 n0 Zs2 ) hZ (wd hw 190 rfl) (wd hw 142 rfl) (by decide) (by decide)) (g := (mkF m 32 #[.val (.ref u_DEFAULTCAPACITY_EMPTY_ELEMENTDATA), .val (.int (0 : Int32)), .val (.ref mr), .val (.ref b2)] [(.int (0 : Int32)), (.int (0 : Int32)), (.int (0 : Int32)), (.ref b2), (.int (0 : Int32)), (.ref u_DEFAULTCAPACITY_EMPTY_ELEMENTDATA)])) rfl (by rw [hml]; rfl) (argsL := [(.int (0 : Int32)), (.int (0 : Int32))]) (rest := [(.int (0 : Int32)), (.ref b2), (.int (0 : Int32)), (.ref u_DEFAULTCAPACITY_EMPTY_ELEMENTDATA)]) (lenOf pd_6 rfl) rfl (by show 2 * 0 + _ ≤ _; exact Nat.le_of_eq rfl) (hb hby d25_32) (fun _ _ => ⟨rfl, e2, (by decide : 1 + 0 ≤ _), (by decide : 0 + 0 ≤ _)⟩)
  dsimp only [Pt.U, Pt.locs, Pt.cells, Pt.slots] at X6 l6 y6 z6 st6 hQ6
  rw [l6, y6, z6] at X6
  obtain ⟨rfl, N6q, eh6⟩ := hQ6
  have N6 := Fr.app N0 N6q
  obtain ⟨T7, h7, L7, X7, e7, N7, Kc7, V7, st7⟩ := cpA X6 hx hZ hown (wd hw 191 rfl) (wd hw 194 rfl) (wd hw 192 rfl) (wd hw 193 rfl) eh6 F4 V2 (Or.inr ⟨rfl, rfl, (show StoL Z h2 b2 [] from trivial)⟩) (by decide) (by decide) (by decide) (by decide) (by decide) rfl (Nat.le_of_ble_eq_true rfl) N6 gg2 (g := (mkF m 35 #[.val (.ref u_DEFAULTCAPACITY_EMPTY_ELEMENTDATA), .val (.int (0 : Int32)), .val (.ref mr), .val (.ref b2)] [(.int (0 : Int32)), (.int (0 : Int32)), (.ref b2), (.int (0 : Int32)), (.ref u_DEFAULTCAPACITY_EMPTY_ELEMENTDATA)])) rfl (by rw [hml]; rfl) rfl (hb hby d25_35) (by decide) (W := 0) (by show 2 * 0 + _ ≤ _; exact Nat.le_of_eq rfl) (by decide)
  have Zs7 : n0 ≤ h7.size := Nat.le_trans Zs2 Kc7.1
  have K7 : Keep h0 h7 [] := K2.trans Kc7 (allS (Or.inr sz2) all0)
  have F8 := F4.keep Kc7 (ninS ne3 nin0)
  have Vc7 : Arv Z h7 b2 k2 (.object "java/lang/Object") (0 : Int32) [] .null := V7
  have k10 : ∀ t, Steps p.tables e below (T7.setTop (mkF m 39 #[.val (.ref u_DEFAULTCAPACITY_EMPTY_ELEMENTDATA), .val (.int (0 : Int32)), .val (.ref mr), .val (.ref b2)] [(.ref b2)])) t → Steps p.tables e below (s₁.setTop (entryFrame m #[(.ref u_DEFAULTCAPACITY_EMPTY_ELEMENTDATA), (.int (0 : Int32)), (.ref mr)] 4)) t := by
    intro t k
    refine pre0 t ?_
    refine XS.aloadN X0.here hx rfl (hb hby d25_0) rfl rfl ?_
    refine st1 _ ?_
    refine Jvm.RoadKit.acmp (g := (mkF m 3 #[.val (.ref u_DEFAULTCAPACITY_EMPTY_ELEMENTDATA), .val (.int (0 : Int32)), .val (.ref mr), .unset] [(.ref mr), (.ref mr)])) X1 hx rfl rfl rfl (pc0 := 3) (pc' := 6) (same := true) rfl (hb hby d25_3) rfl (decide_eq_true rfl) (by decide) (by decide) ?_
    refine XS.iloadN X1.here hx rfl (hb hby d25_6) rfl ?_
    refine st2 _ ?_
    refine XS.goto X2.here hx rfl (pc0 := 10) (pc' := 24) rfl (hb hby d25_10) (by decide) (by decide) ?_
    refine XS.astoreN X2.here hx rfl (hb hby d25_24) rfl rfl (l' := #[.val (.ref u_DEFAULTCAPACITY_EMPTY_ELEMENTDATA), .val (.int (0 : Int32)), .val (.ref mr), .val (.ref b2)]) rfl ?_
    refine XS.aloadN X2.here hx rfl (hb hby d25_25) rfl rfl ?_
    refine XS.iconst X2.here hx rfl (hb hby d25_26) ?_
    refine XS.aloadN X2.here hx rfl (hb hby d25_27) rfl rfl ?_
    refine XS.iconst X2.here hx rfl (hb hby d25_28) ?_
    refine XS.aloadN X2.here hx rfl (hb hby d25_29) rfl rfl ?_
    refine X2.arraylength hx (by rw [e2]; exact Ar5.1) (State.isArrayOf_alike hZ.alike Ar5.2.1) (g := (mkF m 30 #[.val (.ref u_DEFAULTCAPACITY_EMPTY_ELEMENTDATA), .val (.int (0 : Int32)), .val (.ref mr), .val (.ref b2)] [(.ref u_DEFAULTCAPACITY_EMPTY_ELEMENTDATA), (.int (0 : Int32)), (.ref b2), (.int (0 : Int32)), (.ref u_DEFAULTCAPACITY_EMPTY_ELEMENTDATA)])) rfl rfl (hb hby d25_30) _ ?_
    rw [len_of Sz5 Nn5]
    show Steps p.tables e below (T2.setTop (mkF m 31 #[.val (.ref u_DEFAULTCAPACITY_EMPTY_ELEMENTDATA), .val (.int (0 : Int32)), .val (.ref mr), .val (.ref b2)] [(.int (0 : Int32)), (.int (0 : Int32)), (.ref b2), (.int (0 : Int32)), (.ref u_DEFAULTCAPACITY_EMPTY_ELEMENTDATA)])) _
    refine XS.iloadN X2.here hx rfl (hb hby d25_31) rfl ?_
    refine st6 _ ?_
    refine st7 _ ?_
    refine XS.aloadN X7.here hx rfl (hb hby d25_38) rfl rfl ?_
    exact k
  obtain ⟨fs, hr, hrun, hended, hW, hsame⟩ := X7.leave (v := some (.ref b2)) (fun h => by rw [Bd.returns] at h; cases h)
  refine ⟨_, _, k10 _ ?_, hrun, hended, _, _, rfl, ?_, ⟨_, rfl⟩, hW, hsame.mono (by decide) (by decide)⟩
  · exact retOut X7 hx Bd.returns rfl (Or.inr (Or.inr (Or.inr (Or.inr ⟨rfl, rfl, rfl⟩)))) (hb hby d25_39) hr
  · show Q25 Z u_DEFAULTCAPACITY_EMPTY_ELEMENTDATA mr cl_u_DEFAULTCAPACITY_EMPTY_ELEMENTDATA h0 n0 _ T7.heap _
    rw [e7]
    exact ⟨b2, k2, rfl, N7, K7, gg2, sz2, Vc7⟩
theorem pd_10 : parseMethodDescriptor "([Ljava/lang/Object;ILjava/lang/Class;)[Ljava/lang/Object;" = some ⟨[(.array (.object "java/lang/Object")), .int, (.object "java/lang/Class")], some (.array (.object "java/lang/Object"))⟩ := by decide +kernel
theorem d26_0 : decode jdk_65_method_119_code 0 = .ok (.aload_n 0, 1) := by decide +kernel
theorem d26_1 : decode jdk_65_method_119_code 1 = .ok (.iload_n 1, 1) := by decide +kernel
theorem d26_2 : decode jdk_65_method_119_code 2 = .ok (.aload_n 0, 1) := by decide +kernel
theorem d26_3 : decode jdk_65_method_119_code 3 = .ok (.invokevirtual 86, 3) := by decide +kernel
theorem d26_6 : decode jdk_65_method_119_code 6 = .ok (.invokestatic 300, 3) := by decide +kernel
theorem d26_9 : decode jdk_65_method_119_code 9 = .ok (.areturn, 1) := by decide +kernel
theorem ef_26 (m : MethodId) (u_DEFAULTCAPACITY_EMPTY_ELEMENTDATA : Addr) : entryFrame m #[(.ref u_DEFAULTCAPACITY_EMPTY_ELEMENTDATA), (.int (0 : Int32))] 2 = mkF m 0 #[.val (.ref u_DEFAULTCAPACITY_EMPTY_ELEMENTDATA), .val (.int (0 : Int32))] [] := by first | (simp [entryFrame, mkF, argsToLocals, Value.category]; done) | rfl
def Q26 (Z : State) (u_DEFAULTCAPACITY_EMPTY_ELEMENTDATA : Addr) (mr : Addr) (cl_u_DEFAULTCAPACITY_EMPTY_ELEMENTDATA : Cell) (h0 : Heap) (n0 : Nat) (v : Option Value) (h : Heap) (L : List Loc) : Prop := ∃ cx : Addr, ∃ kc : ClassId, v = some (.ref cx) ∧ Fr n0 L ∧ Keep h0 h [] ∧ n0 ≤ cx ∧ h0.size ≤ cx ∧ Arv Z h cx kc (.object "java/lang/Object") (0 : Int32) [] .null
set_option maxRecDepth 65536 in
set_option maxHeartbeats 40000000 in
theorem rm26 (l : Launch) (Z : State) (a0 : Array Value) (hw : ∀ d ∈ tables_1, d.before a0 Z = true) (ws : List Jvm.Cond) (u_DEFAULTCAPACITY_EMPTY_ELEMENTDATA : Addr) (mr : Addr) (cl_u_DEFAULTCAPACITY_EMPTY_ELEMENTDATA : Cell) (h0 : Heap) (n0 : Nat) (Z0 : n0 ≤ h0.size) (V_u_DEFAULTCAPACITY_EMPTY_ELEMENTDATA : Arv Z h0 u_DEFAULTCAPACITY_EMPTY_ELEMENTDATA cl_u_DEFAULTCAPACITY_EMPTY_ELEMENTDATA.cls (.object "java/lang/Object") (0 : Int32) [] .null) (E_u_DEFAULTCAPACITY_EMPTY_ELEMENTDATA : Exa Z h0 u_DEFAULTCAPACITY_EMPTY_ELEMENTDATA "[Ljava/lang/Object;") (hmir : Mir Z "[Ljava/lang/Object;" mr) :
    MetFree l (⟨"java/util/Arrays", "copyOf", "([Ljava/lang/Object;I)[Ljava/lang/Object;"⟩ : MethodName) (head1 (Jvm.Cond.code (⟨"java/util/Arrays", "copyOf", "([Ljava/lang/Object;I)[Ljava/lang/Object;"⟩ : MethodName) jdk_65_method_119_code 2 (some (.array (.object "java/lang/Object"))) :: ws) ({ frames := 2, cells := 1, slots := 0, locals := 55 } : Room)) (fun a U => a = #[(.ref u_DEFAULTCAPACITY_EMPTY_ELEMENTDATA), (.int (0 : Int32))] ∧ Z.Warmed39 U.vm ∧ U.heap = h0) (fun _ _ _ _ _ => True) (fun _ U o U' => ∃ v L, o = .returned v ∧ Q26 Z u_DEFAULTCAPACITY_EMPTY_ELEMENTDATA mr cl_u_DEFAULTCAPACITY_EMPTY_ELEMENTDATA h0 n0 v U'.heap L ∧ FrameEnd U o U' L ({ frames := 2, cells := 1, slots := 0, locals := 55 } : Room).cells ({ frames := 2, cells := 1, slots := 0, locals := 55 } : Room).slots) := by
  refine MetFree.of_bodySF (plainFor_of_name pn_9) hisR ?_
  intro p e s m args below meth c s₁ Bd hml0 hP hK
  obtain ⟨rfl, hZ, hh⟩ := hP
  have hx := Bd.exec
  have hby := Bd.bytes
  have hml : c.maxLocals = 2 := hml0
  have hown : s.vm.findClass "java/util/Arrays" = some m.cls := findClass_of_methodNamed Bd.named
  have hnm := (name_of_methodNamed Bd.named Bd.method).1
  have X0 : Stand p l e ({ frames := 2, cells := 1, slots := 0, locals := 55 } : Room) s m #[(.ref u_DEFAULTCAPACITY_EMPTY_ELEMENTDATA), (.int (0 : Int32))] below meth c s₁ [] 0 0 := Stand.of_body Bd
  have e0 : s₁.heap = h0 := by rw [← hh, Bd.state]; rfl
  have N0 := Fr.nil n0
  have pre0 : ∀ t, Steps p.tables e below (s₁.setTop (mkF m 0 #[.val (.ref u_DEFAULTCAPACITY_EMPTY_ELEMENTDATA), .val (.int (0 : Int32))] [])) t → Steps p.tables e below (s₁.setTop (entryFrame m #[(.ref u_DEFAULTCAPACITY_EMPTY_ELEMENTDATA), (.int (0 : Int32))] 2)) t := fun t k => castTop (ef_26 m u_DEFAULTCAPACITY_EMPTY_ELEMENTDATA) k
  obtain ⟨T1, X1, e1, st1⟩ := own_gcls X0 hx hZ hown (wd hw 177 rfl) (wd hw 178 rfl) (wd hw 180 rfl) (wd hw 179 rfl) (wd hw 181 rfl) e0 E_u_DEFAULTCAPACITY_EMPTY_ELEMENTDATA hmir (g := (mkF m 3 #[.val (.ref u_DEFAULTCAPACITY_EMPTY_ELEMENTDATA), .val (.int (0 : Int32))] [(.ref u_DEFAULTCAPACITY_EMPTY_ELEMENTDATA), (.int (0 : Int32)), (.ref u_DEFAULTCAPACITY_EMPTY_ELEMENTDATA)])) rfl (by rw [hml]; rfl) rfl (hb hby d26_3) (by decide) (W := 2) (by show 2 * 0 + _ ≤ _; exact Nat.le_of_eq rfl) (by decide)
  obtain ⟨_, _, ⟨T2, L2, k2, n2⟩, -, X2, ⟨Lc2, hQ2, l2, y2, z2⟩, st2⟩ := Jvm.LawKit.callS X1 hx (y := (⟨"java/util/Arrays", "copyOf", "([Ljava/lang/Object;ILjava/lang/Class;)[Ljava/lang/Object;"⟩ : MethodName)) hown (mvT hZ (wd hw 183 rfl)) (mvT hZ (wd hw 184 rfl)) (mvT hZ (wd hw 175 rfl)) (mvT hZ (wd hw 185 rfl)) (by decide) (backOf (W := 0) (rm25 l Z a0 hw [] u_DEFAULTCAPACITY_EMPTY_ELEMENTDATA mr cl_u_DEFAULTCAPACITY_EMPTY_ELEMENTDATA h0 n0 Z0 V_u_DEFAULTCAPACITY_EMPTY_ELEMENTDATA hmir) hZ (wd hw 185 rfl) (wd hw 175 rfl) (by decide) (by decide)) (g := (mkF m 6 #[.val (.ref u_DEFAULTCAPACITY_EMPTY_ELEMENTDATA), .val (.int (0 : Int32))] [(.ref mr), (.int (0 : Int32)), (.ref u_DEFAULTCAPACITY_EMPTY_ELEMENTDATA)])) rfl (by rw [hml]; rfl) (argsL := [(.ref u_DEFAULTCAPACITY_EMPTY_ELEMENTDATA), (.int (0 : Int32)), (.ref mr)]) (rest := []) (lenOf pd_10 rfl) rfl (by show 2 * 0 + _ ≤ _; exact Nat.le_of_eq rfl) (hb hby d26_6) (fun _ _ => ⟨rfl, e1, (by decide : 0 + 1 ≤ _), (by decide : 0 + 0 ≤ _)⟩)
  dsimp only [Pt.U, Pt.locs, Pt.cells, Pt.slots] at X2 l2 y2 z2 st2 hQ2
  rw [l2, y2, z2] at X2
  obtain ⟨cx_2, kc_2, rfl, N2q, Kc2, ggcx_2, szcx_2, G2_0⟩ := hQ2
  have ne3 : u_DEFAULTCAPACITY_EMPTY_ELEMENTDATA ≠ cx_2 := Nat.ne_of_lt (Nat.lt_of_lt_of_le V_u_DEFAULTCAPACITY_EMPTY_ELEMENTDATA.lt szcx_2)
  have szzcx_2 : h0.size ≤ cx_2 := Nat.le_trans (Keep.refl h0 []).1 szcx_2
  have Zs2 : n0 ≤ T2.heap.size := Nat.le_trans Z0 Kc2.1
  have K2 : Keep h0 T2.heap [] := (Keep.refl h0 []).trans Kc2 all0
  have F4 := V_u_DEFAULTCAPACITY_EMPTY_ELEMENTDATA.keep Kc2 nin0
  have F5 := E_u_DEFAULTCAPACITY_EMPTY_ELEMENTDATA.keep Kc2
  have N2 := Fr.app N0 N2q
  have k6 : ∀ t, Steps p.tables e below (T2.setTop (mkF m 9 #[.val (.ref u_DEFAULTCAPACITY_EMPTY_ELEMENTDATA), .val (.int (0 : Int32))] [(.ref cx_2)])) t → Steps p.tables e below (s₁.setTop (entryFrame m #[(.ref u_DEFAULTCAPACITY_EMPTY_ELEMENTDATA), (.int (0 : Int32))] 2)) t := by
    intro t k
    refine pre0 t ?_
    refine XS.aloadN X0.here hx rfl (hb hby d26_0) rfl rfl ?_
    refine XS.iloadN X0.here hx rfl (hb hby d26_1) rfl ?_
    refine XS.aloadN X0.here hx rfl (hb hby d26_2) rfl rfl ?_
    refine st1 _ ?_
    refine st2 _ ?_
    exact k
  obtain ⟨fs, hr, hrun, hended, hW, hsame⟩ := X2.leave (v := some (.ref cx_2)) (fun h => by rw [Bd.returns] at h; cases h)
  refine ⟨_, _, k6 _ ?_, hrun, hended, _, _, rfl, ?_, ⟨_, rfl⟩, hW, hsame.mono (by decide) (by decide)⟩
  · exact retOut X2 hx Bd.returns rfl (Or.inr (Or.inr (Or.inr (Or.inr ⟨rfl, rfl, rfl⟩)))) (hb hby d26_9) hr
  · show Q26 Z u_DEFAULTCAPACITY_EMPTY_ELEMENTDATA mr cl_u_DEFAULTCAPACITY_EMPTY_ELEMENTDATA h0 n0 _ T2.heap _
    exact ⟨cx_2, kc_2, rfl, N2, K2, ggcx_2, szzcx_2, G2_0⟩
theorem pd_11 : parseMethodDescriptor "([Ljava/lang/Object;I)[Ljava/lang/Object;" = some ⟨[(.array (.object "java/lang/Object")), .int], some (.array (.object "java/lang/Object"))⟩ := by decide +kernel
theorem d27_0 : decode jdk_38_method_16_code 0 = .ok (.aload_n 0, 1) := by decide +kernel
theorem d27_1 : decode jdk_38_method_16_code 1 = .ok (.getfield 9, 3) := by decide +kernel
theorem d27_4 : decode jdk_38_method_16_code 4 = .ok (.aload_n 0, 1) := by decide +kernel
theorem d27_5 : decode jdk_38_method_16_code 5 = .ok (.getfield 48, 3) := by decide +kernel
theorem d27_8 : decode jdk_38_method_16_code 8 = .ok (.invokestatic 66, 3) := by decide +kernel
theorem d27_11 : decode jdk_38_method_16_code 11 = .ok (.areturn, 1) := by decide +kernel
theorem ef_27 (m : MethodId) (a27_0 : Addr) : entryFrame m #[(.ref a27_0)] 1 = mkF m 0 #[.val (.ref a27_0)] [] := by first | (simp [entryFrame, mkF, argsToLocals, Value.category]; done) | rfl
def Q27 (Z : State) (a27_0 : Addr) (mr : Addr) (u_DEFAULTCAPACITY_EMPTY_ELEMENTDATA : Addr) (cl_u_DEFAULTCAPACITY_EMPTY_ELEMENTDATA : Cell) (h0 : Heap) (n0 : Nat) (v : Option Value) (h : Heap) (L : List Loc) : Prop := ∃ cx : Addr, ∃ kc : ClassId, v = some (.ref cx) ∧ Fr n0 L ∧ Keep h0 h [] ∧ n0 ≤ cx ∧ h0.size ≤ cx ∧ Arv Z h cx kc (.object "java/lang/Object") (0 : Int32) [] .null
set_option maxRecDepth 65536 in
set_option maxHeartbeats 40000000 in
theorem rm27 (l : Launch) (Z : State) (a0 : Array Value) (hw : ∀ d ∈ tables_1, d.before a0 Z = true) (ws : List Jvm.Cond) (a27_0 : Addr) (mr : Addr) (u_DEFAULTCAPACITY_EMPTY_ELEMENTDATA : Addr) (cl_u_DEFAULTCAPACITY_EMPTY_ELEMENTDATA : Cell) (h0 : Heap) (n0 : Nat) (Z0 : n0 ≤ h0.size) (Ea : Exa Z h0 a27_0 "java/util/ArrayList") (Fz : Fld Z h0 a27_0 "java/util/ArrayList" "size" "I" (.int (0 : Int32))) (Fe : Fld Z h0 a27_0 "java/util/ArrayList" "elementData" "[Ljava/lang/Object;" (.ref u_DEFAULTCAPACITY_EMPTY_ELEMENTDATA)) (V_u_DEFAULTCAPACITY_EMPTY_ELEMENTDATA : Arv Z h0 u_DEFAULTCAPACITY_EMPTY_ELEMENTDATA cl_u_DEFAULTCAPACITY_EMPTY_ELEMENTDATA.cls (.object "java/lang/Object") (0 : Int32) [] .null) (E_u_DEFAULTCAPACITY_EMPTY_ELEMENTDATA : Exa Z h0 u_DEFAULTCAPACITY_EMPTY_ELEMENTDATA "[Ljava/lang/Object;") (hmir : Mir Z "[Ljava/lang/Object;" mr) :
    MetFree l (⟨"java/util/ArrayList", "toArray", "()[Ljava/lang/Object;"⟩ : MethodName) (head1 (Jvm.Cond.code (⟨"java/util/ArrayList", "toArray", "()[Ljava/lang/Object;"⟩ : MethodName) jdk_38_method_16_code 1 (some (.array (.object "java/lang/Object"))) :: ws) ({ frames := 3, cells := 1, slots := 0, locals := 68 } : Room)) (fun a U => a = #[(.ref a27_0)] ∧ Z.Warmed39 U.vm ∧ U.heap = h0) (fun _ _ _ _ _ => True) (fun _ U o U' => ∃ v L, o = .returned v ∧ Q27 Z a27_0 mr u_DEFAULTCAPACITY_EMPTY_ELEMENTDATA cl_u_DEFAULTCAPACITY_EMPTY_ELEMENTDATA h0 n0 v U'.heap L ∧ FrameEnd U o U' L ({ frames := 3, cells := 1, slots := 0, locals := 68 } : Room).cells ({ frames := 3, cells := 1, slots := 0, locals := 68 } : Room).slots) := by
  refine MetFree.of_bodySF (plainFor_of_name pn_2) hisR ?_
  intro p e s m args below meth c s₁ Bd hml0 hP hK
  obtain ⟨rfl, hZ, hh⟩ := hP
  have hx := Bd.exec
  have hby := Bd.bytes
  have hml : c.maxLocals = 1 := hml0
  have hown : s.vm.findClass "java/util/ArrayList" = some m.cls := findClass_of_methodNamed Bd.named
  have hnm := (name_of_methodNamed Bd.named Bd.method).1
  have X0 : Stand p l e ({ frames := 3, cells := 1, slots := 0, locals := 68 } : Room) s m #[(.ref a27_0)] below meth c s₁ [] 0 0 := Stand.of_body Bd
  have e0 : s₁.heap = h0 := by rw [← hh, Bd.state]; rfl
  have N0 := Fr.nil n0
  have pre0 : ∀ t, Steps p.tables e below (s₁.setTop (mkF m 0 #[.val (.ref a27_0)] [])) t → Steps p.tables e below (s₁.setTop (entryFrame m #[(.ref a27_0)] 1)) t := fun t k => castTop (ef_27 m a27_0) k
  obtain ⟨T1, X1, e1, st1⟩ := getF X0 hx hZ hown (host := "") (Or.inl (wd hw 43 rfl)) Via.refl e0 Fe (g := (mkF m 1 #[.val (.ref a27_0)] [(.ref a27_0)])) rfl rfl (hb hby d27_1)
  obtain ⟨T2, X2, e2, st2⟩ := getF X1 hx hZ hown (host := "") (Or.inl (wd hw 123 rfl)) Via.refl e1 Fz (g := (mkF m 5 #[.val (.ref a27_0)] [(.ref a27_0), (.ref u_DEFAULTCAPACITY_EMPTY_ELEMENTDATA)])) rfl rfl (hb hby d27_5)
  obtain ⟨_, _, ⟨T3, L3, k3, n3⟩, -, X3, ⟨Lc3, hQ3, l3, y3, z3⟩, st3⟩ := Jvm.LawKit.callS X2 hx (y := (⟨"java/util/Arrays", "copyOf", "([Ljava/lang/Object;I)[Ljava/lang/Object;"⟩ : MethodName)) hown (mvT hZ (wd hw 173 rfl)) (mvT hZ (wd hw 174 rfl)) (mvT hZ (wd hw 175 rfl)) (mvT hZ (wd hw 176 rfl)) (by decide) (backOf (W := 0) (rm26 l Z a0 hw [] u_DEFAULTCAPACITY_EMPTY_ELEMENTDATA mr cl_u_DEFAULTCAPACITY_EMPTY_ELEMENTDATA h0 n0 Z0 V_u_DEFAULTCAPACITY_EMPTY_ELEMENTDATA E_u_DEFAULTCAPACITY_EMPTY_ELEMENTDATA hmir) hZ (wd hw 176 rfl) (wd hw 175 rfl) (by decide) (by decide)) (g := (mkF m 8 #[.val (.ref a27_0)] [(.int (0 : Int32)), (.ref u_DEFAULTCAPACITY_EMPTY_ELEMENTDATA)])) rfl (by rw [hml]; rfl) (argsL := [(.ref u_DEFAULTCAPACITY_EMPTY_ELEMENTDATA), (.int (0 : Int32))]) (rest := []) (lenOf pd_11 rfl) rfl (by show 2 * 0 + _ ≤ _; exact Nat.le_of_eq rfl) (hb hby d27_8) (fun _ _ => ⟨rfl, e2, (by decide : 0 + 1 ≤ _), (by decide : 0 + 0 ≤ _)⟩)
  dsimp only [Pt.U, Pt.locs, Pt.cells, Pt.slots] at X3 l3 y3 z3 st3 hQ3
  rw [l3, y3, z3] at X3
  obtain ⟨cx_3, kc_3, rfl, N3q, Kc3, ggcx_3, szcx_3, G3_0⟩ := hQ3
  have ne4 : a27_0 ≠ cx_3 := Nat.ne_of_lt (Nat.lt_of_lt_of_le Ea.lt szcx_3)
  have ne5 : u_DEFAULTCAPACITY_EMPTY_ELEMENTDATA ≠ cx_3 := Nat.ne_of_lt (Nat.lt_of_lt_of_le V_u_DEFAULTCAPACITY_EMPTY_ELEMENTDATA.lt szcx_3)
  have szzcx_3 : h0.size ≤ cx_3 := Nat.le_trans (Keep.refl h0 []).1 szcx_3
  have Zs3 : n0 ≤ T3.heap.size := Nat.le_trans Z0 Kc3.1
  have K3 : Keep h0 T3.heap [] := (Keep.refl h0 []).trans Kc3 all0
  have F6 := Ea.keep Kc3
  have F7 := Fz.keep Kc3 nin0
  have F8 := Fe.keep Kc3 nin0
  have F9 := V_u_DEFAULTCAPACITY_EMPTY_ELEMENTDATA.keep Kc3 nin0
  have F10 := E_u_DEFAULTCAPACITY_EMPTY_ELEMENTDATA.keep Kc3
  have N3 := Fr.app N0 N3q
  have k11 : ∀ t, Steps p.tables e below (T3.setTop (mkF m 11 #[.val (.ref a27_0)] [(.ref cx_3)])) t → Steps p.tables e below (s₁.setTop (entryFrame m #[(.ref a27_0)] 1)) t := by
    intro t k
    refine pre0 t ?_
    refine XS.aloadN X0.here hx rfl (hb hby d27_0) rfl rfl ?_
    refine st1 _ ?_
    refine XS.aloadN X1.here hx rfl (hb hby d27_4) rfl rfl ?_
    refine st2 _ ?_
    refine st3 _ ?_
    exact k
  obtain ⟨fs, hr, hrun, hended, hW, hsame⟩ := X3.leave (v := some (.ref cx_3)) (fun h => by rw [Bd.returns] at h; cases h)
  refine ⟨_, _, k11 _ ?_, hrun, hended, _, _, rfl, ?_, ⟨_, rfl⟩, hW, hsame.mono (by decide) (by decide)⟩
  · exact retOut X3 hx Bd.returns rfl (Or.inr (Or.inr (Or.inr (Or.inr ⟨rfl, rfl, rfl⟩)))) (hb hby d27_11) hr
  · show Q27 Z a27_0 mr u_DEFAULTCAPACITY_EMPTY_ELEMENTDATA cl_u_DEFAULTCAPACITY_EMPTY_ELEMENTDATA h0 n0 _ T3.heap _
    exact ⟨cx_3, kc_3, rfl, N3, K3, ggcx_3, szzcx_3, G3_0⟩
theorem d28_0 : decode jdk_65_method_120_code 0 = .ok (.aload_n 2, 1) := by decide +kernel
theorem d28_1 : decode jdk_65_method_120_code 1 = .ok (.ldc 110, 2) := by decide +kernel
theorem d28_3 : decode jdk_65_method_120_code 3 = .ok (.if_acmp .ne 10, 3) := by decide +kernel
theorem d28_6 : decode jdk_65_method_120_code 6 = .ok (.iload_n 1, 1) := by decide +kernel
theorem d28_7 : decode jdk_65_method_120_code 7 = .ok (.anewarray 2, 3) := by decide +kernel
theorem d28_10 : decode jdk_65_method_120_code 10 = .ok (.goto 14, 3) := by decide +kernel
theorem d28_24 : decode jdk_65_method_120_code 24 = .ok (.astore_n 3, 1) := by decide +kernel
theorem d28_25 : decode jdk_65_method_120_code 25 = .ok (.aload_n 0, 1) := by decide +kernel
theorem d28_26 : decode jdk_65_method_120_code 26 = .ok (.iconst 0, 1) := by decide +kernel
theorem d28_27 : decode jdk_65_method_120_code 27 = .ok (.aload_n 3, 1) := by decide +kernel
theorem d28_28 : decode jdk_65_method_120_code 28 = .ok (.iconst 0, 1) := by decide +kernel
theorem d28_29 : decode jdk_65_method_120_code 29 = .ok (.aload_n 0, 1) := by decide +kernel
theorem d28_30 : decode jdk_65_method_120_code 30 = .ok (.arraylength, 1) := by decide +kernel
theorem d28_31 : decode jdk_65_method_120_code 31 = .ok (.iload_n 1, 1) := by decide +kernel
theorem d28_32 : decode jdk_65_method_120_code 32 = .ok (.invokestatic 304, 3) := by decide +kernel
theorem d28_35 : decode jdk_65_method_120_code 35 = .ok (.invokestatic 150, 3) := by decide +kernel
theorem d28_38 : decode jdk_65_method_120_code 38 = .ok (.aload_n 3, 1) := by decide +kernel
theorem d28_39 : decode jdk_65_method_120_code 39 = .ok (.areturn, 1) := by decide +kernel
theorem ef_28 (m : MethodId) (a28_0 : Addr) (mr : Addr) : entryFrame m #[(.ref a28_0), (.int (1 : Int32)), (.ref mr)] 4 = mkF m 0 #[.val (.ref a28_0), .val (.int (1 : Int32)), .val (.ref mr), .unset] [] := by first | (simp [entryFrame, mkF, argsToLocals, Value.category]; done) | rfl
def Q28 (Z : State) (a28_0 : Addr) (mr : Addr) (ke : ClassId) (xe0 : Addr) (h0 : Heap) (n0 : Nat) (v : Option Value) (h : Heap) (L : List Loc) : Prop := ∃ cx : Addr, ∃ kc : ClassId, v = some (.ref cx) ∧ Fr n0 L ∧ Keep h0 h [] ∧ n0 ≤ cx ∧ h0.size ≤ cx ∧ Arv Z h cx kc (.object "java/lang/Object") (1 : Int32) [(.ref xe0)] .null
set_option maxRecDepth 65536 in
set_option maxHeartbeats 40000000 in
theorem rm28 (l : Launch) (Z : State) (a0 : Array Value) (hw : ∀ d ∈ tables_1, d.before a0 Z = true) (ws : List Jvm.Cond) (a28_0 : Addr) (mr : Addr) (ke : ClassId) (xe0 : Addr) (h0 : Heap) (n0 : Nat) (Z0 : n0 ≤ h0.size) (Ve : Arv Z h0 a28_0 ke (.object "java/lang/Object") (10 : Int32) [(.ref xe0), .null, .null, .null, .null, .null, .null, .null, .null, .null] .null) (Ex0 : Exa Z h0 xe0 "com/example/batchrake/batchrake/DeleteReport$Failure") (hmir : Mir Z "[Ljava/lang/Object;" mr) :
    MetFree l (⟨"java/util/Arrays", "copyOf", "([Ljava/lang/Object;ILjava/lang/Class;)[Ljava/lang/Object;"⟩ : MethodName) (head1 (Jvm.Cond.code (⟨"java/util/Arrays", "copyOf", "([Ljava/lang/Object;ILjava/lang/Class;)[Ljava/lang/Object;"⟩ : MethodName) jdk_65_method_120_code 4 (some (.array (.object "java/lang/Object"))) :: ws) ({ frames := 1, cells := 1, slots := 1, locals := 40 } : Room)) (fun a U => a = #[(.ref a28_0), (.int (1 : Int32)), (.ref mr)] ∧ Z.Warmed39 U.vm ∧ U.heap = h0) (fun _ _ _ _ _ => True) (fun _ U o U' => ∃ v L, o = .returned v ∧ Q28 Z a28_0 mr ke xe0 h0 n0 v U'.heap L ∧ FrameEnd U o U' L ({ frames := 1, cells := 1, slots := 1, locals := 40 } : Room).cells ({ frames := 1, cells := 1, slots := 1, locals := 40 } : Room).slots) := by
  refine MetFree.of_bodySF (plainFor_of_name pn_9) hisR ?_
  intro p e s m args below meth c s₁ Bd hml0 hP hK
  obtain ⟨rfl, hZ, hh⟩ := hP
  have hx := Bd.exec
  have hby := Bd.bytes
  have hml : c.maxLocals = 4 := hml0
  have hown : s.vm.findClass "java/util/Arrays" = some m.cls := findClass_of_methodNamed Bd.named
  have hnm := (name_of_methodNamed Bd.named Bd.method).1
  have X0 : Stand p l e ({ frames := 1, cells := 1, slots := 1, locals := 40 } : Room) s m #[(.ref a28_0), (.int (1 : Int32)), (.ref mr)] below meth c s₁ [] 0 0 := Stand.of_body Bd
  have e0 : s₁.heap = h0 := by rw [← hh, Bd.state]; rfl
  have N0 := Fr.nil n0
  have pre0 : ∀ t, Steps p.tables e below (s₁.setTop (mkF m 0 #[.val (.ref a28_0), .val (.int (1 : Int32)), .val (.ref mr), .unset] [])) t → Steps p.tables e below (s₁.setTop (entryFrame m #[(.ref a28_0), (.int (1 : Int32)), (.ref mr)] 4)) t := fun t k => castTop (ef_28 m a28_0 mr) k
  obtain ⟨T1, X1, e1, st1⟩ := own_ldcm X0 hx hZ hown (wd hw 186 rfl) e0 hmir (g := (mkF m 1 #[.val (.ref a28_0), .val (.int (1 : Int32)), .val (.ref mr), .unset] [(.ref mr)])) rfl (hb hby d28_1)
  obtain ⟨b2, g2⟩ : ∃ z, z = h0.size := ⟨_, rfl⟩
  obtain ⟨T2, h2, k2, X2, e2, E2, A2, O2, st2⟩ := newR X1 hx hZ hown (wd hw 187 rfl) (wd hw 145 rfl) e1 (g := (mkF m 7 #[.val (.ref a28_0), .val (.int (1 : Int32)), .val (.ref mr), .unset] [(.int (1 : Int32))])) rfl (hb hby d28_7) rfl (by decide) (cap := 1) (by decide) (by decide) (by decide) (by decide)
  rw [← g2] at A2 st2
  have ne3 : a28_0 ≠ b2 := Nat.ne_of_lt (Nat.lt_of_lt_of_le Ve.lt (Nat.le_of_eq g2.symm))
  have ne4 : xe0 ≠ b2 := Nat.ne_of_lt (Nat.lt_of_lt_of_le Ex0.lt (Nat.le_of_eq g2.symm))
  have gg2 : n0 ≤ b2 := Nat.le_trans Z0 (Nat.le_of_eq g2.symm)
  have sz2 : h0.size ≤ b2 := Nat.le_trans (Keep.refl h0 []).1 (Nat.le_of_eq g2.symm)
  have Zs2 : n0 ≤ h2.size := Nat.le_trans Z0 E2.1
  have K2 : Keep h0 h2 [] := (Keep.refl h0 []).ext E2
  have F5 := Ve.ext E2
  have F6 := Ex0.ext E2
  have V2 : Arv Z h2 b2 k2 (.object "java/lang/Object") (1 : Int32) [.null] .null := (Arv.new A2 (by decide)).pad (pad_rep [] .null 1)
  obtain ⟨cl7, Ar7, qc7, Sz7, Nn7, Hh7, Gg7⟩ := (id F5)
  obtain ⟨_, _, ⟨T8, L8, k8, n8⟩, -, X8, ⟨Lc8, hQ8, l8, y8, z8⟩, st8⟩ := Jvm.LawKit.callS X2 hx (y := (⟨"java/lang/Math", "min", "(II)I"⟩ : MethodName)) hown (mvT hZ (wd hw 188 rfl)) (mvT hZ (wd hw 189 rfl)) (mvT hZ (wd hw 142 rfl)) (mvT hZ (wd hw 190 rfl)) (by decide) (backOf (W := 4) (rm18 l Z a0 hw []  h2 n0 Zs2 ) hZ (wd hw 190 rfl) (wd hw 142 rfl) (by decide) (by decide)) (g := (mkF m 32 #[.val (.ref a28_0), .val (.int (1 : Int32)), .val (.ref mr), .val (.ref b2)] [(.int (1 : Int32)), (.int (10 : Int32)), (.int (0 : Int32)), (.ref b2), (.int (0 : Int32)), (.ref a28_0)])) rfl (by rw [hml]; rfl) (argsL := [(.int (10 : Int32)), (.int (1 : Int32))]) (rest := [(.int (0 : Int32)), (.ref b2), (.int (0 : Int32)), (.ref a28_0)]) (lenOf pd_6 rfl) rfl (by show 2 * 0 + _ ≤ _; exact Nat.le_of_eq rfl) (hb hby d28_32) (fun _ _ => ⟨rfl, e2, (by decide : 1 + 0 ≤ _), (by decide : 1 + 0 ≤ _)⟩)
  dsimp only [Pt.U, Pt.locs, Pt.cells, Pt.slots] at X8 l8 y8 z8 st8 hQ8
  rw [l8, y8, z8] at X8
  obtain ⟨rfl, N8q, eh8⟩ := hQ8
  have N8 := Fr.app N0 N8q
  obtain ⟨cl9, Ar9, qc9, Sz9, Nn9, Hh9, Gg9⟩ := (id V2)
  obtain ⟨T10, h10, L10, X10, e10, N10, Kc10, V10, st10⟩ := cpA X8 hx hZ hown (wd hw 191 rfl) (wd hw 194 rfl) (wd hw 192 rfl) (wd hw 193 rfl) eh8 F5 V2 (Or.inr ⟨rfl, rfl, (show StoL Z h2 b2 [.ref xe0] from ⟨Sto.ofV Ar9 qc9 O2 (Ins.of_exa F6 (wd hw 146 rfl)), trivial⟩)⟩) (by decide) (by decide) (by decide) (by decide) (by decide) rfl (Nat.le_of_ble_eq_true rfl) N8 gg2 (g := (mkF m 35 #[.val (.ref a28_0), .val (.int (1 : Int32)), .val (.ref mr), .val (.ref b2)] [(.int (1 : Int32)), (.int (0 : Int32)), (.ref b2), (.int (0 : Int32)), (.ref a28_0)])) rfl (by rw [hml]; rfl) rfl (hb hby d28_35) (by decide) (W := 0) (by show 2 * 0 + _ ≤ _; exact Nat.le_of_eq rfl) (by decide)
  have Zs10 : n0 ≤ h10.size := Nat.le_trans Zs2 Kc10.1
  have K10 : Keep h0 h10 [] := K2.trans Kc10 (allS (Or.inr sz2) all0)
  have F11 := F5.keep Kc10 (ninS ne3 nin0)
  have F12 := F6.keep Kc10
  have Vc10 : Arv Z h10 b2 k2 (.object "java/lang/Object") (1 : Int32) [(.ref xe0)] .null := V10
  have k14 : ∀ t, Steps p.tables e below (T10.setTop (mkF m 39 #[.val (.ref a28_0), .val (.int (1 : Int32)), .val (.ref mr), .val (.ref b2)] [(.ref b2)])) t → Steps p.tables e below (s₁.setTop (entryFrame m #[(.ref a28_0), (.int (1 : Int32)), (.ref mr)] 4)) t := by
    intro t k
    refine pre0 t ?_
    refine XS.aloadN X0.here hx rfl (hb hby d28_0) rfl rfl ?_
    refine st1 _ ?_
    refine Jvm.RoadKit.acmp (g := (mkF m 3 #[.val (.ref a28_0), .val (.int (1 : Int32)), .val (.ref mr), .unset] [(.ref mr), (.ref mr)])) X1 hx rfl rfl rfl (pc0 := 3) (pc' := 6) (same := true) rfl (hb hby d28_3) rfl (decide_eq_true rfl) (by decide) (by decide) ?_
    refine XS.iloadN X1.here hx rfl (hb hby d28_6) rfl ?_
    refine st2 _ ?_
    refine XS.goto X2.here hx rfl (pc0 := 10) (pc' := 24) rfl (hb hby d28_10) (by decide) (by decide) ?_
    refine XS.astoreN X2.here hx rfl (hb hby d28_24) rfl rfl (l' := #[.val (.ref a28_0), .val (.int (1 : Int32)), .val (.ref mr), .val (.ref b2)]) rfl ?_
    refine XS.aloadN X2.here hx rfl (hb hby d28_25) rfl rfl ?_
    refine XS.iconst X2.here hx rfl (hb hby d28_26) ?_
    refine XS.aloadN X2.here hx rfl (hb hby d28_27) rfl rfl ?_
    refine XS.iconst X2.here hx rfl (hb hby d28_28) ?_
    refine XS.aloadN X2.here hx rfl (hb hby d28_29) rfl rfl ?_
    refine X2.arraylength hx (by rw [e2]; exact Ar7.1) (State.isArrayOf_alike hZ.alike Ar7.2.1) (g := (mkF m 30 #[.val (.ref a28_0), .val (.int (1 : Int32)), .val (.ref mr), .val (.ref b2)] [(.ref a28_0), (.int (0 : Int32)), (.ref b2), (.int (0 : Int32)), (.ref a28_0)])) rfl rfl (hb hby d28_30) _ ?_
    rw [len_of Sz7 Nn7]
    show Steps p.tables e below (T2.setTop (mkF m 31 #[.val (.ref a28_0), .val (.int (1 : Int32)), .val (.ref mr), .val (.ref b2)] [(.int (10 : Int32)), (.int (0 : Int32)), (.ref b2), (.int (0 : Int32)), (.ref a28_0)])) _
    refine XS.iloadN X2.here hx rfl (hb hby d28_31) rfl ?_
    refine st8 _ ?_
    refine st10 _ ?_
    refine XS.aloadN X10.here hx rfl (hb hby d28_38) rfl rfl ?_
    exact k
  obtain ⟨fs, hr, hrun, hended, hW, hsame⟩ := X10.leave (v := some (.ref b2)) (fun h => by rw [Bd.returns] at h; cases h)
  refine ⟨_, _, k14 _ ?_, hrun, hended, _, _, rfl, ?_, ⟨_, rfl⟩, hW, hsame.mono (by decide) (by decide)⟩
  · exact retOut X10 hx Bd.returns rfl (Or.inr (Or.inr (Or.inr (Or.inr ⟨rfl, rfl, rfl⟩)))) (hb hby d28_39) hr
  · show Q28 Z a28_0 mr ke xe0 h0 n0 _ T10.heap _
    rw [e10]
    exact ⟨b2, k2, rfl, N10, K10, gg2, sz2, Vc10⟩
theorem d29_0 : decode jdk_65_method_119_code 0 = .ok (.aload_n 0, 1) := by decide +kernel
theorem d29_1 : decode jdk_65_method_119_code 1 = .ok (.iload_n 1, 1) := by decide +kernel
theorem d29_2 : decode jdk_65_method_119_code 2 = .ok (.aload_n 0, 1) := by decide +kernel
theorem d29_3 : decode jdk_65_method_119_code 3 = .ok (.invokevirtual 86, 3) := by decide +kernel
theorem d29_6 : decode jdk_65_method_119_code 6 = .ok (.invokestatic 300, 3) := by decide +kernel
theorem d29_9 : decode jdk_65_method_119_code 9 = .ok (.areturn, 1) := by decide +kernel
theorem ef_29 (m : MethodId) (a29_0 : Addr) : entryFrame m #[(.ref a29_0), (.int (1 : Int32))] 2 = mkF m 0 #[.val (.ref a29_0), .val (.int (1 : Int32))] [] := by first | (simp [entryFrame, mkF, argsToLocals, Value.category]; done) | rfl
def Q29 (Z : State) (a29_0 : Addr) (mr : Addr) (ke : ClassId) (xe0 : Addr) (h0 : Heap) (n0 : Nat) (v : Option Value) (h : Heap) (L : List Loc) : Prop := ∃ cx : Addr, ∃ kc : ClassId, v = some (.ref cx) ∧ Fr n0 L ∧ Keep h0 h [] ∧ n0 ≤ cx ∧ h0.size ≤ cx ∧ Arv Z h cx kc (.object "java/lang/Object") (1 : Int32) [(.ref xe0)] .null
set_option maxRecDepth 65536 in
set_option maxHeartbeats 40000000 in
theorem rm29 (l : Launch) (Z : State) (a0 : Array Value) (hw : ∀ d ∈ tables_1, d.before a0 Z = true) (ws : List Jvm.Cond) (a29_0 : Addr) (mr : Addr) (ke : ClassId) (xe0 : Addr) (h0 : Heap) (n0 : Nat) (Z0 : n0 ≤ h0.size) (Ve : Arv Z h0 a29_0 ke (.object "java/lang/Object") (10 : Int32) [(.ref xe0), .null, .null, .null, .null, .null, .null, .null, .null, .null] .null) (Ex0 : Exa Z h0 xe0 "com/example/batchrake/batchrake/DeleteReport$Failure") (Ed : Exa Z h0 a29_0 "[Ljava/lang/Object;") (hmir : Mir Z "[Ljava/lang/Object;" mr) :
    MetFree l (⟨"java/util/Arrays", "copyOf", "([Ljava/lang/Object;I)[Ljava/lang/Object;"⟩ : MethodName) (head1 (Jvm.Cond.code (⟨"java/util/Arrays", "copyOf", "([Ljava/lang/Object;I)[Ljava/lang/Object;"⟩ : MethodName) jdk_65_method_119_code 2 (some (.array (.object "java/lang/Object"))) :: ws) ({ frames := 2, cells := 1, slots := 1, locals := 55 } : Room)) (fun a U => a = #[(.ref a29_0), (.int (1 : Int32))] ∧ Z.Warmed39 U.vm ∧ U.heap = h0) (fun _ _ _ _ _ => True) (fun _ U o U' => ∃ v L, o = .returned v ∧ Q29 Z a29_0 mr ke xe0 h0 n0 v U'.heap L ∧ FrameEnd U o U' L ({ frames := 2, cells := 1, slots := 1, locals := 55 } : Room).cells ({ frames := 2, cells := 1, slots := 1, locals := 55 } : Room).slots) := by
  refine MetFree.of_bodySF (plainFor_of_name pn_9) hisR ?_
  intro p e s m args below meth c s₁ Bd hml0 hP hK
  obtain ⟨rfl, hZ, hh⟩ := hP
  have hx := Bd.exec
  have hby := Bd.bytes
  have hml : c.maxLocals = 2 := hml0
  have hown : s.vm.findClass "java/util/Arrays" = some m.cls := findClass_of_methodNamed Bd.named
  have hnm := (name_of_methodNamed Bd.named Bd.method).1
  have X0 : Stand p l e ({ frames := 2, cells := 1, slots := 1, locals := 55 } : Room) s m #[(.ref a29_0), (.int (1 : Int32))] below meth c s₁ [] 0 0 := Stand.of_body Bd
  have e0 : s₁.heap = h0 := by rw [← hh, Bd.state]; rfl
  have N0 := Fr.nil n0
  have pre0 : ∀ t, Steps p.tables e below (s₁.setTop (mkF m 0 #[.val (.ref a29_0), .val (.int (1 : Int32))] [])) t → Steps p.tables e below (s₁.setTop (entryFrame m #[(.ref a29_0), (.int (1 : Int32))] 2)) t := fun t k => castTop (ef_29 m a29_0) k
  obtain ⟨T1, X1, e1, st1⟩ := own_gcls X0 hx hZ hown (wd hw 177 rfl) (wd hw 178 rfl) (wd hw 180 rfl) (wd hw 179 rfl) (wd hw 181 rfl) e0 Ed hmir (g := (mkF m 3 #[.val (.ref a29_0), .val (.int (1 : Int32))] [(.ref a29_0), (.int (1 : Int32)), (.ref a29_0)])) rfl (by rw [hml]; rfl) rfl (hb hby d29_3) (by decide) (W := 2) (by show 2 * 0 + _ ≤ _; exact Nat.le_of_eq rfl) (by decide)
  obtain ⟨_, _, ⟨T2, L2, k2, n2⟩, -, X2, ⟨Lc2, hQ2, l2, y2, z2⟩, st2⟩ := Jvm.LawKit.callS X1 hx (y := (⟨"java/util/Arrays", "copyOf", "([Ljava/lang/Object;ILjava/lang/Class;)[Ljava/lang/Object;"⟩ : MethodName)) hown (mvT hZ (wd hw 183 rfl)) (mvT hZ (wd hw 184 rfl)) (mvT hZ (wd hw 175 rfl)) (mvT hZ (wd hw 185 rfl)) (by decide) (backOf (W := 0) (rm28 l Z a0 hw [] a29_0 mr ke xe0 h0 n0 Z0 Ve Ex0 hmir) hZ (wd hw 185 rfl) (wd hw 175 rfl) (by decide) (by decide)) (g := (mkF m 6 #[.val (.ref a29_0), .val (.int (1 : Int32))] [(.ref mr), (.int (1 : Int32)), (.ref a29_0)])) rfl (by rw [hml]; rfl) (argsL := [(.ref a29_0), (.int (1 : Int32)), (.ref mr)]) (rest := []) (lenOf pd_10 rfl) rfl (by show 2 * 0 + _ ≤ _; exact Nat.le_of_eq rfl) (hb hby d29_6) (fun _ _ => ⟨rfl, e1, (by decide : 0 + 1 ≤ _), (by decide : 0 + 1 ≤ _)⟩)
  dsimp only [Pt.U, Pt.locs, Pt.cells, Pt.slots] at X2 l2 y2 z2 st2 hQ2
  rw [l2, y2, z2] at X2
  obtain ⟨cx_2, kc_2, rfl, N2q, Kc2, ggcx_2, szcx_2, G2_0⟩ := hQ2
  have ne3 : a29_0 ≠ cx_2 := Nat.ne_of_lt (Nat.lt_of_lt_of_le Ve.lt szcx_2)
  have ne4 : xe0 ≠ cx_2 := Nat.ne_of_lt (Nat.lt_of_lt_of_le Ex0.lt szcx_2)
  have szzcx_2 : h0.size ≤ cx_2 := Nat.le_trans (Keep.refl h0 []).1 szcx_2
  have Zs2 : n0 ≤ T2.heap.size := Nat.le_trans Z0 Kc2.1
  have K2 : Keep h0 T2.heap [] := (Keep.refl h0 []).trans Kc2 all0
  have F5 := Ve.keep Kc2 nin0
  have F6 := Ex0.keep Kc2
  have F7 := Ed.keep Kc2
  have N2 := Fr.app N0 N2q
  have k8 : ∀ t, Steps p.tables e below (T2.setTop (mkF m 9 #[.val (.ref a29_0), .val (.int (1 : Int32))] [(.ref cx_2)])) t → Steps p.tables e below (s₁.setTop (entryFrame m #[(.ref a29_0), (.int (1 : Int32))] 2)) t := by
    intro t k
    refine pre0 t ?_
    refine XS.aloadN X0.here hx rfl (hb hby d29_0) rfl rfl ?_
    refine XS.iloadN X0.here hx rfl (hb hby d29_1) rfl ?_
    refine XS.aloadN X0.here hx rfl (hb hby d29_2) rfl rfl ?_
    refine st1 _ ?_
    refine st2 _ ?_
    exact k
  obtain ⟨fs, hr, hrun, hended, hW, hsame⟩ := X2.leave (v := some (.ref cx_2)) (fun h => by rw [Bd.returns] at h; cases h)
  refine ⟨_, _, k8 _ ?_, hrun, hended, _, _, rfl, ?_, ⟨_, rfl⟩, hW, hsame.mono (by decide) (by decide)⟩
  · exact retOut X2 hx Bd.returns rfl (Or.inr (Or.inr (Or.inr (Or.inr ⟨rfl, rfl, rfl⟩)))) (hb hby d29_9) hr
  · show Q29 Z a29_0 mr ke xe0 h0 n0 _ T2.heap _
    exact ⟨cx_2, kc_2, rfl, N2, K2, ggcx_2, szzcx_2, G2_0⟩
theorem d30_0 : decode jdk_38_method_16_code 0 = .ok (.aload_n 0, 1) := by decide +kernel
theorem d30_1 : decode jdk_38_method_16_code 1 = .ok (.getfield 9, 3) := by decide +kernel
theorem d30_4 : decode jdk_38_method_16_code 4 = .ok (.aload_n 0, 1) := by decide +kernel
theorem d30_5 : decode jdk_38_method_16_code 5 = .ok (.getfield 48, 3) := by decide +kernel
theorem d30_8 : decode jdk_38_method_16_code 8 = .ok (.invokestatic 66, 3) := by decide +kernel
theorem d30_11 : decode jdk_38_method_16_code 11 = .ok (.areturn, 1) := by decide +kernel
theorem ef_30 (m : MethodId) (a30_0 : Addr) : entryFrame m #[(.ref a30_0)] 1 = mkF m 0 #[.val (.ref a30_0)] [] := by first | (simp [entryFrame, mkF, argsToLocals, Value.category]; done) | rfl
def Q30 (Z : State) (a30_0 : Addr) (mr : Addr) (ke : ClassId) (xe0 : Addr) (ed : Addr) (h0 : Heap) (n0 : Nat) (v : Option Value) (h : Heap) (L : List Loc) : Prop := ∃ cx : Addr, ∃ kc : ClassId, v = some (.ref cx) ∧ Fr n0 L ∧ Keep h0 h [] ∧ n0 ≤ cx ∧ h0.size ≤ cx ∧ Arv Z h cx kc (.object "java/lang/Object") (1 : Int32) [(.ref xe0)] .null
set_option maxRecDepth 65536 in
set_option maxHeartbeats 40000000 in
theorem rm30 (l : Launch) (Z : State) (a0 : Array Value) (hw : ∀ d ∈ tables_1, d.before a0 Z = true) (ws : List Jvm.Cond) (a30_0 : Addr) (mr : Addr) (ke : ClassId) (xe0 : Addr) (ed : Addr) (h0 : Heap) (n0 : Nat) (Z0 : n0 ≤ h0.size) (Ea : Exa Z h0 a30_0 "java/util/ArrayList") (Fz : Fld Z h0 a30_0 "java/util/ArrayList" "size" "I" (.int (1 : Int32))) (Fe : Fld Z h0 a30_0 "java/util/ArrayList" "elementData" "[Ljava/lang/Object;" (.ref ed)) (Ve : Arv Z h0 ed ke (.object "java/lang/Object") (10 : Int32) [(.ref xe0), .null, .null, .null, .null, .null, .null, .null, .null, .null] .null) (Ex0 : Exa Z h0 xe0 "com/example/batchrake/batchrake/DeleteReport$Failure") (Ed : Exa Z h0 ed "[Ljava/lang/Object;") (hmir : Mir Z "[Ljava/lang/Object;" mr) :
    MetFree l (⟨"java/util/ArrayList", "toArray", "()[Ljava/lang/Object;"⟩ : MethodName) (head1 (Jvm.Cond.code (⟨"java/util/ArrayList", "toArray", "()[Ljava/lang/Object;"⟩ : MethodName) jdk_38_method_16_code 1 (some (.array (.object "java/lang/Object"))) :: ws) ({ frames := 3, cells := 1, slots := 1, locals := 68 } : Room)) (fun a U => a = #[(.ref a30_0)] ∧ Z.Warmed39 U.vm ∧ U.heap = h0) (fun _ _ _ _ _ => True) (fun _ U o U' => ∃ v L, o = .returned v ∧ Q30 Z a30_0 mr ke xe0 ed h0 n0 v U'.heap L ∧ FrameEnd U o U' L ({ frames := 3, cells := 1, slots := 1, locals := 68 } : Room).cells ({ frames := 3, cells := 1, slots := 1, locals := 68 } : Room).slots) := by
  refine MetFree.of_bodySF (plainFor_of_name pn_2) hisR ?_
  intro p e s m args below meth c s₁ Bd hml0 hP hK
  obtain ⟨rfl, hZ, hh⟩ := hP
  have hx := Bd.exec
  have hby := Bd.bytes
  have hml : c.maxLocals = 1 := hml0
  have hown : s.vm.findClass "java/util/ArrayList" = some m.cls := findClass_of_methodNamed Bd.named
  have hnm := (name_of_methodNamed Bd.named Bd.method).1
  have X0 : Stand p l e ({ frames := 3, cells := 1, slots := 1, locals := 68 } : Room) s m #[(.ref a30_0)] below meth c s₁ [] 0 0 := Stand.of_body Bd
  have e0 : s₁.heap = h0 := by rw [← hh, Bd.state]; rfl
  have N0 := Fr.nil n0
  have pre0 : ∀ t, Steps p.tables e below (s₁.setTop (mkF m 0 #[.val (.ref a30_0)] [])) t → Steps p.tables e below (s₁.setTop (entryFrame m #[(.ref a30_0)] 1)) t := fun t k => castTop (ef_30 m a30_0) k
  obtain ⟨T1, X1, e1, st1⟩ := getF X0 hx hZ hown (host := "") (Or.inl (wd hw 43 rfl)) Via.refl e0 Fe (g := (mkF m 1 #[.val (.ref a30_0)] [(.ref a30_0)])) rfl rfl (hb hby d30_1)
  obtain ⟨T2, X2, e2, st2⟩ := getF X1 hx hZ hown (host := "") (Or.inl (wd hw 123 rfl)) Via.refl e1 Fz (g := (mkF m 5 #[.val (.ref a30_0)] [(.ref a30_0), (.ref ed)])) rfl rfl (hb hby d30_5)
  obtain ⟨_, _, ⟨T3, L3, k3, n3⟩, -, X3, ⟨Lc3, hQ3, l3, y3, z3⟩, st3⟩ := Jvm.LawKit.callS X2 hx (y := (⟨"java/util/Arrays", "copyOf", "([Ljava/lang/Object;I)[Ljava/lang/Object;"⟩ : MethodName)) hown (mvT hZ (wd hw 173 rfl)) (mvT hZ (wd hw 174 rfl)) (mvT hZ (wd hw 175 rfl)) (mvT hZ (wd hw 176 rfl)) (by decide) (backOf (W := 0) (rm29 l Z a0 hw [] ed mr ke xe0 h0 n0 Z0 Ve Ex0 Ed hmir) hZ (wd hw 176 rfl) (wd hw 175 rfl) (by decide) (by decide)) (g := (mkF m 8 #[.val (.ref a30_0)] [(.int (1 : Int32)), (.ref ed)])) rfl (by rw [hml]; rfl) (argsL := [(.ref ed), (.int (1 : Int32))]) (rest := []) (lenOf pd_11 rfl) rfl (by show 2 * 0 + _ ≤ _; exact Nat.le_of_eq rfl) (hb hby d30_8) (fun _ _ => ⟨rfl, e2, (by decide : 0 + 1 ≤ _), (by decide : 0 + 1 ≤ _)⟩)
  dsimp only [Pt.U, Pt.locs, Pt.cells, Pt.slots] at X3 l3 y3 z3 st3 hQ3
  rw [l3, y3, z3] at X3
  obtain ⟨cx_3, kc_3, rfl, N3q, Kc3, ggcx_3, szcx_3, G3_0⟩ := hQ3
  have ne4 : a30_0 ≠ cx_3 := Nat.ne_of_lt (Nat.lt_of_lt_of_le Ea.lt szcx_3)
  have ne5 : ed ≠ cx_3 := Nat.ne_of_lt (Nat.lt_of_lt_of_le Ve.lt szcx_3)
  have ne6 : xe0 ≠ cx_3 := Nat.ne_of_lt (Nat.lt_of_lt_of_le Ex0.lt szcx_3)
  have szzcx_3 : h0.size ≤ cx_3 := Nat.le_trans (Keep.refl h0 []).1 szcx_3
  have Zs3 : n0 ≤ T3.heap.size := Nat.le_trans Z0 Kc3.1
  have K3 : Keep h0 T3.heap [] := (Keep.refl h0 []).trans Kc3 all0
  have F7 := Ea.keep Kc3
  have F8 := Fz.keep Kc3 nin0
  have F9 := Fe.keep Kc3 nin0
  have F10 := Ve.keep Kc3 nin0
  have F11 := Ex0.keep Kc3
  have F12 := Ed.keep Kc3
  have N3 := Fr.app N0 N3q
  have k13 : ∀ t, Steps p.tables e below (T3.setTop (mkF m 11 #[.val (.ref a30_0)] [(.ref cx_3)])) t → Steps p.tables e below (s₁.setTop (entryFrame m #[(.ref a30_0)] 1)) t := by
    intro t k
    refine pre0 t ?_
    refine XS.aloadN X0.here hx rfl (hb hby d30_0) rfl rfl ?_
    refine st1 _ ?_
    refine XS.aloadN X1.here hx rfl (hb hby d30_4) rfl rfl ?_
    refine st2 _ ?_
    refine st3 _ ?_
    exact k
  obtain ⟨fs, hr, hrun, hended, hW, hsame⟩ := X3.leave (v := some (.ref cx_3)) (fun h => by rw [Bd.returns] at h; cases h)
  refine ⟨_, _, k13 _ ?_, hrun, hended, _, _, rfl, ?_, ⟨_, rfl⟩, hW, hsame.mono (by decide) (by decide)⟩
  · exact retOut X3 hx Bd.returns rfl (Or.inr (Or.inr (Or.inr (Or.inr ⟨rfl, rfl, rfl⟩)))) (hb hby d30_11) hr
  · show Q30 Z a30_0 mr ke xe0 ed h0 n0 _ T3.heap _
    exact ⟨cx_3, kc_3, rfl, N3, K3, ggcx_3, szzcx_3, G3_0⟩
theorem own_ks (ks : Int32) (h : ks = (1 : Int32) ∨ ks = (2 : Int32)) : ¬ ks = (0 : Int32) ∧ ¬ (ks + (1 : Int32)) = (0 : Int32) ∧ ¬ ((10 : Int32) - ks) < (1 : Int32) ∧ ¬ ks < (0 : Int32) ∧ ks.toNatClampNeg + (1 : Int32).toNatClampNeg ≤ (10 : Int32).toNatClampNeg := by
  rcases h with rfl | rfl <;> decide
theorem d31_0 : decode jdk_38_method_41_code 0 = .ok (.aload_n 1, 1) := by decide +kernel
theorem d31_1 : decode jdk_38_method_41_code 1 = .ok (.invokeinterface 42 1, 5) := by decide +kernel
theorem d31_6 : decode jdk_38_method_41_code 6 = .ok (.astore_n 2, 1) := by decide +kernel
theorem d31_7 : decode jdk_38_method_41_code 7 = .ok (.aload_n 0, 1) := by decide +kernel
theorem d31_8 : decode jdk_38_method_41_code 8 = .ok (.dup, 1) := by decide +kernel
theorem d31_9 : decode jdk_38_method_41_code 9 = .ok (.getfield 63, 3) := by decide +kernel
theorem d31_12 : decode jdk_38_method_41_code 12 = .ok (.iconst 1, 1) := by decide +kernel
theorem d31_13 : decode jdk_38_method_41_code 13 = .ok (.iadd, 1) := by decide +kernel
theorem d31_14 : decode jdk_38_method_41_code 14 = .ok (.putfield 63, 3) := by decide +kernel
theorem d31_17 : decode jdk_38_method_41_code 17 = .ok (.aload_n 2, 1) := by decide +kernel
theorem d31_18 : decode jdk_38_method_41_code 18 = .ok (.arraylength, 1) := by decide +kernel
theorem d31_19 : decode jdk_38_method_41_code 19 = .ok (.istore_n 3, 1) := by decide +kernel
theorem d31_20 : decode jdk_38_method_41_code 20 = .ok (.iload_n 3, 1) := by decide +kernel
theorem d31_21 : decode jdk_38_method_41_code 21 = .ok (.ifCond .ne 5, 3) := by decide +kernel
theorem d31_24 : decode jdk_38_method_41_code 24 = .ok (.iconst 0, 1) := by decide +kernel
theorem d31_25 : decode jdk_38_method_41_code 25 = .ok (.ireturn, 1) := by decide +kernel
theorem ef_31 (m : MethodId) (la : Addr) (lb : Addr) : entryFrame m #[(.ref la), (.ref lb)] 6 = mkF m 0 #[.val (.ref la), .val (.ref lb), .unset, .unset, .unset, .unset] [] := by first | (simp [entryFrame, mkF, argsToLocals, Value.category]; done) | rfl
def Q31 (Z : State) (la : Addr) (lb : Addr) (ma : Int32) (mb : Int32) (u_DEFAULTCAPACITY_EMPTY_ELEMENTDATA : Addr) (cl_u_DEFAULTCAPACITY_EMPTY_ELEMENTDATA : Cell) (mr : Addr) (h0 : Heap) (n0 : Nat) (v : Option Value) (h : Heap) (L : List Loc) : Prop := v = some (.int (0 : Int32)) ∧ Fr n0 L ∧ Keep h0 h [la] ∧ Exa Z h la "java/util/ArrayList" ∧ Fld Z h la "java/util/ArrayList" "size" "I" (.int (0 : Int32))
set_option maxRecDepth 65536 in
set_option maxHeartbeats 40000000 in
theorem rm31 (l : Launch) (Z : State) (a0 : Array Value) (hw : ∀ d ∈ tables_1, d.before a0 Z = true) (ws : List Jvm.Cond) (la : Addr) (lb : Addr) (ma : Int32) (mb : Int32) (u_DEFAULTCAPACITY_EMPTY_ELEMENTDATA : Addr) (cl_u_DEFAULTCAPACITY_EMPTY_ELEMENTDATA : Cell) (mr : Addr) (h0 : Heap) (n0 : Nat) (Z0 : n0 ≤ h0.size) (S_DEFAULTCAPACITY_EMPTY_ELEMENTDATA : Sta Z h0 "java/util/ArrayList" "DEFAULTCAPACITY_EMPTY_ELEMENTDATA" "[Ljava/lang/Object;" (.ref u_DEFAULTCAPACITY_EMPTY_ELEMENTDATA)) (V_u_DEFAULTCAPACITY_EMPTY_ELEMENTDATA : Arv Z h0 u_DEFAULTCAPACITY_EMPTY_ELEMENTDATA cl_u_DEFAULTCAPACITY_EMPTY_ELEMENTDATA.cls (.object "java/lang/Object") (0 : Int32) [] .null) (E_u_DEFAULTCAPACITY_EMPTY_ELEMENTDATA : Exa Z h0 u_DEFAULTCAPACITY_EMPTY_ELEMENTDATA "[Ljava/lang/Object;") (AEl : Exa Z h0 la "java/util/ArrayList") (AFm : Fld Z h0 la "java/util/AbstractList" "modCount" "I" (.int ma)) (AFz : Fld Z h0 la "java/util/ArrayList" "size" "I" (.int (0 : Int32))) (AFe : Fld Z h0 la "java/util/ArrayList" "elementData" "[Ljava/lang/Object;" (.ref u_DEFAULTCAPACITY_EMPTY_ELEMENTDATA)) (BEl : Exa Z h0 lb "java/util/ArrayList") (BFm : Fld Z h0 lb "java/util/AbstractList" "modCount" "I" (.int mb)) (BFz : Fld Z h0 lb "java/util/ArrayList" "size" "I" (.int (0 : Int32))) (BFe : Fld Z h0 lb "java/util/ArrayList" "elementData" "[Ljava/lang/Object;" (.ref u_DEFAULTCAPACITY_EMPTY_ELEMENTDATA)) (hmir : Mir Z "[Ljava/lang/Object;" mr) (hnd : u_DEFAULTCAPACITY_EMPTY_ELEMENTDATA ≠ la) (g_la : n0 ≤ la) :
    MetFree l (⟨"java/util/ArrayList", "addAll", "(Ljava/util/Collection;)Z"⟩ : MethodName) (head1 (Jvm.Cond.code (⟨"java/util/ArrayList", "addAll", "(Ljava/util/Collection;)Z"⟩ : MethodName) jdk_38_method_41_code 6 (some .boolean) :: ws) ({ frames := 4, cells := 1, slots := 0, locals := 80 } : Room)) (fun a U => a = #[(.ref la), (.ref lb)] ∧ Z.Warmed39 U.vm ∧ U.heap = h0) (fun _ _ _ _ _ => True) (fun _ U o U' => ∃ v L, o = .returned v ∧ Q31 Z la lb ma mb u_DEFAULTCAPACITY_EMPTY_ELEMENTDATA cl_u_DEFAULTCAPACITY_EMPTY_ELEMENTDATA mr h0 n0 v U'.heap L ∧ FrameEnd U o U' L ({ frames := 4, cells := 1, slots := 0, locals := 80 } : Room).cells ({ frames := 4, cells := 1, slots := 0, locals := 80 } : Room).slots) := by
  refine MetFree.of_bodySF (plainFor_of_name pn_2) hisR ?_
  intro p e s m args below meth c s₁ Bd hml0 hP hK
  obtain ⟨rfl, hZ, hh⟩ := hP
  have hx := Bd.exec
  have hby := Bd.bytes
  have hml : c.maxLocals = 6 := hml0
  have hown : s.vm.findClass "java/util/ArrayList" = some m.cls := findClass_of_methodNamed Bd.named
  have hnm := (name_of_methodNamed Bd.named Bd.method).1
  have X0 : Stand p l e ({ frames := 4, cells := 1, slots := 0, locals := 80 } : Room) s m #[(.ref la), (.ref lb)] below meth c s₁ [] 0 0 := Stand.of_body Bd
  have e0 : s₁.heap = h0 := by rw [← hh, Bd.state]; rfl
  have N0 := Fr.nil n0
  have pre0 : ∀ t, Steps p.tables e below (s₁.setTop (mkF m 0 #[.val (.ref la), .val (.ref lb), .unset, .unset, .unset, .unset] [])) t → Steps p.tables e below (s₁.setTop (entryFrame m #[(.ref la), (.ref lb)] 6)) t := fun t k => castTop (ef_31 m la lb) k
  obtain ⟨cq1, kq1, q1a, q1b, q1c⟩ := isOf hZ e0 BEl
  obtain ⟨_, _, ⟨T1, L1, k1, n1⟩, -, X1, ⟨Lc1, hQ1, l1, y1, z1⟩, st1⟩ := X0.interfaceBack hx (xi := (⟨"java/util/Collection", "toArray", "()[Ljava/lang/Object;"⟩ : MethodName)) (y := (⟨"java/util/ArrayList", "toArray", "()[Ljava/lang/Object;"⟩ : MethodName)) hown (mvT hZ (wd hw 164 rfl)) (mvT hZ (wd hw 165 rfl)) (mvT hZ (wd hw 166 rfl)) (mvT hZ (wd hw 167 rfl)) (mvT hZ (wd hw 168 rfl)) (mvT hZ (wd hw 169 rfl)) (mvT hZ (wd hw 170 rfl)) (mvT hZ (wd hw 171 rfl)) (by decide) (backOf (W := 0) (rm27 l Z a0 hw [] lb mr u_DEFAULTCAPACITY_EMPTY_ELEMENTDATA cl_u_DEFAULTCAPACITY_EMPTY_ELEMENTDATA h0 n0 Z0 BEl BFz BFe V_u_DEFAULTCAPACITY_EMPTY_ELEMENTDATA E_u_DEFAULTCAPACITY_EMPTY_ELEMENTDATA hmir) hZ (wd hw 172 rfl) (wd hw 23 rfl) (by decide) (by decide)) q1a q1b q1c (g := (mkF m 1 #[.val (.ref la), .val (.ref lb), .unset, .unset, .unset, .unset] [(.ref lb)])) rfl (by rw [hml]; rfl) (Steps.refl _) (argsL := []) (rest := []) (lenOf pd_8 rfl) rfl (by show 2 * 0 + _ ≤ _; exact Nat.le_of_eq rfl) (hb hby d31_1) (fun _ _ => ⟨rfl, e0, (by decide : 0 + 1 ≤ _), (by decide : 0 + 0 ≤ _)⟩)
  dsimp only [Pt.U, Pt.locs, Pt.cells, Pt.slots] at X1 l1 y1 z1 st1 hQ1
  rw [l1, y1, z1] at X1
  obtain ⟨cx_1, kc_1, rfl, N1q, Kc1, ggcx_1, szcx_1, G1_0⟩ := hQ1
  have ne2 : u_DEFAULTCAPACITY_EMPTY_ELEMENTDATA ≠ cx_1 := Nat.ne_of_lt (Nat.lt_of_lt_of_le V_u_DEFAULTCAPACITY_EMPTY_ELEMENTDATA.lt szcx_1)
  have ne3 : la ≠ cx_1 := Nat.ne_of_lt (Nat.lt_of_lt_of_le AEl.lt szcx_1)
  have ne4 : lb ≠ cx_1 := Nat.ne_of_lt (Nat.lt_of_lt_of_le BEl.lt szcx_1)
  have szzcx_1 : h0.size ≤ cx_1 := Nat.le_trans (Keep.refl h0 [la]).1 szcx_1
  have Zs1 : n0 ≤ T1.heap.size := Nat.le_trans Z0 Kc1.1
  have K1 : Keep h0 T1.heap [la] := (Keep.refl h0 [la]).trans Kc1 all0
  have F5 := own_stakeep S_DEFAULTCAPACITY_EMPTY_ELEMENTDATA Kc1 all0
  have F6 := V_u_DEFAULTCAPACITY_EMPTY_ELEMENTDATA.keep Kc1 nin0
  have F7 := E_u_DEFAULTCAPACITY_EMPTY_ELEMENTDATA.keep Kc1
  have F8 := AEl.keep Kc1
  have F9 := AFm.keep Kc1 nin0
  have F10 := AFz.keep Kc1 nin0
  have F11 := AFe.keep Kc1 nin0
  have F12 := BEl.keep Kc1
  have F13 := BFm.keep Kc1 nin0
  have F14 := BFz.keep Kc1 nin0
  have F15 := BFe.keep Kc1 nin0
  have N1 := Fr.app N0 N1q
  obtain ⟨T16, X16, e16, st16⟩ := getF X1 hx hZ hown (host := "") (Or.inl (wd hw 121 rfl)) (Via.of (wd hw 122 rfl)) rfl F9 (g := (mkF m 9 #[.val (.ref la), .val (.ref lb), .val (.ref cx_1), .unset, .unset, .unset] [(.ref la), (.ref la)])) rfl rfl (hb hby d31_9)
  obtain ⟨T17, h17, X17, e17, W17, st17⟩ := putF X16 hx hZ hown (host := "") (Or.inl (wd hw 121 rfl)) (Via.of (wd hw 122 rfl)) e16 F9 F8 (Or.inl (wd hw 41 rfl)) (wd hw 22 rfl) (ty := .int) (by decide) rfl rfl (g := (mkF m 14 #[.val (.ref la), .val (.ref lb), .val (.ref cx_1), .unset, .unset, .unset] [(.int (ma + (1 : Int32))), (.ref la)])) rfl rfl (hb hby d31_14)
  have Fw17 : Fld Z h17 la "java/util/AbstractList" "modCount" "I" (.int (ma + (1 : Int32))) := F9.same W17
  have F18 := F5.wr W17
  have F19 := F6.other W17 hnd
  have F20 := F7.wr W17
  have F21 := F8.wr W17
  have F23 := F10.other W17 (Or.inr (slot_ne (Or.inl (wd hw 124 rfl)) (Or.inl (wd hw 41 rfl)) (by decide) (t := .int) (t' := .int) (by decide) (by decide)))
  have F24 := F11.other W17 (Or.inr (slot_ne (Or.inl (wd hw 44 rfl)) (Or.inl (wd hw 41 rfl)) (by decide) (t := (.array (.object "java/lang/Object"))) (t' := .int) (by decide) (by decide)))
  have F25 := F12.wr W17
  have F29 := G1_0.other W17 (Ne.symm ne3)
  have N17 := Fr.snoc X17 N1 g_la
  have K17 : Keep h0 h17 [la] := K1.wr W17 (Or.inl (List.mem_of_getElem? (i := 0) rfl))
  have Zs17 : n0 ≤ h17.size := by rw [W17.size]; exact Zs1
  obtain ⟨cl30, Ar30, qc30, Sz30, Nn30, Hh30, Gg30⟩ := (id F29)
  have k31 : ∀ t, Steps p.tables e below (T17.setTop (mkF m 25 #[.val (.ref la), .val (.ref lb), .val (.ref cx_1), .val (.int (0 : Int32)), .unset, .unset] [(.int (0 : Int32))])) t → Steps p.tables e below (s₁.setTop (entryFrame m #[(.ref la), (.ref lb)] 6)) t := by
    intro t k
    refine pre0 t ?_
    refine XS.aloadN X0.here hx rfl (hb hby d31_0) rfl rfl ?_
    refine st1.trans ?_
    refine XS.astoreN X1.here hx rfl (hb hby d31_6) rfl rfl (l' := #[.val (.ref la), .val (.ref lb), .val (.ref cx_1), .unset, .unset, .unset]) rfl ?_
    refine XS.aloadN X1.here hx rfl (hb hby d31_7) rfl rfl ?_
    refine XS.dup X1.here hx rfl (hb hby d31_8) rfl rfl ?_
    refine st16 _ ?_
    refine XS.iconst X16.here hx rfl (hb hby d31_12) ?_
    refine XS.iadd X16.here hx rfl (hb hby d31_13) rfl ?_
    refine st17 _ ?_
    refine XS.aloadN X17.here hx rfl (hb hby d31_17) rfl rfl ?_
    refine X17.arraylength hx (by rw [e17]; exact Ar30.1) (State.isArrayOf_alike hZ.alike Ar30.2.1) (g := (mkF m 18 #[.val (.ref la), .val (.ref lb), .val (.ref cx_1), .unset, .unset, .unset] [(.ref cx_1)])) rfl rfl (hb hby d31_18) _ ?_
    rw [len_of Sz30 Nn30]
    refine XS.istoreN X17.here hx rfl (hb hby d31_19) rfl (l' := #[.val (.ref la), .val (.ref lb), .val (.ref cx_1), .val (.int (0 : Int32)), .unset, .unset]) rfl ?_
    refine XS.iloadN X17.here hx rfl (hb hby d31_20) rfl ?_
    show Steps p.tables e below (T17.setTop (mkF m 21 #[.val (.ref la), .val (.ref lb), .val (.ref cx_1), .val (.int (0 : Int32)), .unset, .unset] [(.int (0 : Int32))])) _
    refine XS.ifNo X17.here hx rfl (hb hby d31_21) rfl ((if0 _ _).trans (teq (by decide : (0 : Int32) = (0 : Int32))).2) ?_
    refine XS.iconst X17.here hx rfl (hb hby d31_24) ?_
    exact k
  obtain ⟨fs, hr, hrun, hended, hW, hsame⟩ := X17.leave (v := some (.int (0 : Int32))) (fun h => by rw [Bd.returns] at h; cases h)
  refine ⟨_, _, k31 _ ?_, hrun, hended, _, _, rfl, ?_, ⟨_, rfl⟩, hW, hsame.mono (by decide) (by decide)⟩
  · exact retN X17 hx (t := .boolean) Bd.returns (by simp) (hb hby d31_25) hr
  · show Q31 Z la lb ma mb u_DEFAULTCAPACITY_EMPTY_ELEMENTDATA cl_u_DEFAULTCAPACITY_EMPTY_ELEMENTDATA mr h0 n0 _ T17.heap _
    rw [e17]
    exact ⟨rfl, N17, K17, F21, F23⟩
theorem pd_12 : parseMethodDescriptor "(Ljava/util/Collection;)Z" = some ⟨[(.object "java/util/Collection")], some .boolean⟩ := by decide +kernel
theorem d32_0 : decode prog_1_method_5_code 0 = .ok (.aload_n 0, 1) := by decide +kernel
theorem d32_1 : decode prog_1_method_5_code 1 = .ok (.dup, 1) := by decide +kernel
theorem d32_2 : decode prog_1_method_5_code 2 = .ok (.getfield 40, 3) := by decide +kernel
theorem d32_5 : decode prog_1_method_5_code 5 = .ok (.aload_n 1, 1) := by decide +kernel
theorem d32_6 : decode prog_1_method_5_code 6 = .ok (.getfield 40, 3) := by decide +kernel
theorem d32_9 : decode prog_1_method_5_code 9 = .ok (.iadd, 1) := by decide +kernel
theorem d32_10 : decode prog_1_method_5_code 10 = .ok (.putfield 40, 3) := by decide +kernel
theorem d32_13 : decode prog_1_method_5_code 13 = .ok (.aload_n 0, 1) := by decide +kernel
theorem d32_14 : decode prog_1_method_5_code 14 = .ok (.dup, 1) := by decide +kernel
theorem d32_15 : decode prog_1_method_5_code 15 = .ok (.getfield 44, 3) := by decide +kernel
theorem d32_18 : decode prog_1_method_5_code 18 = .ok (.aload_n 1, 1) := by decide +kernel
theorem d32_19 : decode prog_1_method_5_code 19 = .ok (.getfield 44, 3) := by decide +kernel
theorem d32_22 : decode prog_1_method_5_code 22 = .ok (.iadd, 1) := by decide +kernel
theorem d32_23 : decode prog_1_method_5_code 23 = .ok (.putfield 44, 3) := by decide +kernel
theorem d32_26 : decode prog_1_method_5_code 26 = .ok (.aload_n 0, 1) := by decide +kernel
theorem d32_27 : decode prog_1_method_5_code 27 = .ok (.getfield 17, 3) := by decide +kernel
theorem d32_30 : decode prog_1_method_5_code 30 = .ok (.aload_n 1, 1) := by decide +kernel
theorem d32_31 : decode prog_1_method_5_code 31 = .ok (.getfield 17, 3) := by decide +kernel
theorem d32_34 : decode prog_1_method_5_code 34 = .ok (.invokeinterface 58 2, 5) := by decide +kernel
theorem d32_39 : decode prog_1_method_5_code 39 = .ok (.pop, 1) := by decide +kernel
theorem d32_40 : decode prog_1_method_5_code 40 = .ok (.return_, 1) := by decide +kernel
theorem ef_32 (m : MethodId) (ra : Addr) (rb : Addr) : entryFrame m #[(.ref ra), (.ref rb)] 2 = mkF m 0 #[.val (.ref ra), .val (.ref rb)] [] := by first | (simp [entryFrame, mkF, argsToLocals, Value.category]; done) | rfl
def Q32 (Z : State) (ra : Addr) (rb : Addr) (la : Addr) (da : Int32) (na : Int32) (ma : Int32) (lb : Addr) (db : Int32) (nb : Int32) (mb : Int32) (u_DEFAULTCAPACITY_EMPTY_ELEMENTDATA : Addr) (cl_u_DEFAULTCAPACITY_EMPTY_ELEMENTDATA : Cell) (mr : Addr) (h0 : Heap) (n0 : Nat) (v : Option Value) (h : Heap) (L : List Loc) : Prop := v = none ∧ Fr n0 L ∧ Keep h0 h [ra, la] ∧ Exa Z h ra "com/example/batchrake/batchrake/DeleteReport" ∧ Fld Z h ra "com/example/batchrake/batchrake/DeleteReport" "failures" "Ljava/util/List;" (.ref la) ∧ Exa Z h la "java/util/ArrayList" ∧ Fld Z h la "java/util/ArrayList" "size" "I" (.int (0 : Int32))
set_option maxRecDepth 65536 in
set_option maxHeartbeats 40000000 in
theorem rm32 (l : Launch) (Z : State) (a0 : Array Value) (hw : ∀ d ∈ tables_1, d.before a0 Z = true) (ws : List Jvm.Cond) (ra : Addr) (rb : Addr) (la : Addr) (da : Int32) (na : Int32) (ma : Int32) (lb : Addr) (db : Int32) (nb : Int32) (mb : Int32) (u_DEFAULTCAPACITY_EMPTY_ELEMENTDATA : Addr) (cl_u_DEFAULTCAPACITY_EMPTY_ELEMENTDATA : Cell) (mr : Addr) (h0 : Heap) (n0 : Nat) (Z0 : n0 ≤ h0.size) (S_DEFAULTCAPACITY_EMPTY_ELEMENTDATA : Sta Z h0 "java/util/ArrayList" "DEFAULTCAPACITY_EMPTY_ELEMENTDATA" "[Ljava/lang/Object;" (.ref u_DEFAULTCAPACITY_EMPTY_ELEMENTDATA)) (V_u_DEFAULTCAPACITY_EMPTY_ELEMENTDATA : Arv Z h0 u_DEFAULTCAPACITY_EMPTY_ELEMENTDATA cl_u_DEFAULTCAPACITY_EMPTY_ELEMENTDATA.cls (.object "java/lang/Object") (0 : Int32) [] .null) (E_u_DEFAULTCAPACITY_EMPTY_ELEMENTDATA : Exa Z h0 u_DEFAULTCAPACITY_EMPTY_ELEMENTDATA "[Ljava/lang/Object;") (AEr : Exa Z h0 ra "com/example/batchrake/batchrake/DeleteReport") (AFf : Fld Z h0 ra "com/example/batchrake/batchrake/DeleteReport" "failures" "Ljava/util/List;" (.ref la)) (AFd : Fld Z h0 ra "com/example/batchrake/batchrake/DeleteReport" "deleted" "I" (.int da)) (AFn : Fld Z h0 ra "com/example/batchrake/batchrake/DeleteReport" "notFound" "I" (.int na)) (AEl : Exa Z h0 la "java/util/ArrayList") (AFm : Fld Z h0 la "java/util/AbstractList" "modCount" "I" (.int ma)) (AFz : Fld Z h0 la "java/util/ArrayList" "size" "I" (.int (0 : Int32))) (AFe : Fld Z h0 la "java/util/ArrayList" "elementData" "[Ljava/lang/Object;" (.ref u_DEFAULTCAPACITY_EMPTY_ELEMENTDATA)) (BEr : Exa Z h0 rb "com/example/batchrake/batchrake/DeleteReport") (BFf : Fld Z h0 rb "com/example/batchrake/batchrake/DeleteReport" "failures" "Ljava/util/List;" (.ref lb)) (BFd : Fld Z h0 rb "com/example/batchrake/batchrake/DeleteReport" "deleted" "I" (.int db)) (BFn : Fld Z h0 rb "com/example/batchrake/batchrake/DeleteReport" "notFound" "I" (.int nb)) (BEl : Exa Z h0 lb "java/util/ArrayList") (BFm : Fld Z h0 lb "java/util/AbstractList" "modCount" "I" (.int mb)) (BFz : Fld Z h0 lb "java/util/ArrayList" "size" "I" (.int (0 : Int32))) (BFe : Fld Z h0 lb "java/util/ArrayList" "elementData" "[Ljava/lang/Object;" (.ref u_DEFAULTCAPACITY_EMPTY_ELEMENTDATA)) (hmir : Mir Z "[Ljava/lang/Object;" mr) (hnd : u_DEFAULTCAPACITY_EMPTY_ELEMENTDATA ≠ la) (hr_la : la ≠ ra) (hr_rb : rb ≠ ra) (hr_lb : lb ≠ ra) (hr_u_DEFAULTCAPACITY_EMPTY_ELEMENTDATA : u_DEFAULTCAPACITY_EMPTY_ELEMENTDATA ≠ ra) (g_ra : n0 ≤ ra) (g_la : n0 ≤ la) :
    MetFree l (⟨"com/example/batchrake/batchrake/DeleteReport", "add", "(Lcom/example/batchrake/batchrake/DeleteReport;)V"⟩ : MethodName) (head1 (Jvm.Cond.code (⟨"com/example/batchrake/batchrake/DeleteReport", "add", "(Lcom/example/batchrake/batchrake/DeleteReport;)V"⟩ : MethodName) prog_1_method_5_code 2 none :: ws) ({ frames := 5, cells := 1, slots := 0, locals := 97 } : Room)) (fun a U => a = #[(.ref ra), (.ref rb)] ∧ Z.Warmed39 U.vm ∧ U.heap = h0) (fun _ _ _ _ _ => True) (fun _ U o U' => ∃ v L, o = .returned v ∧ Q32 Z ra rb la da na ma lb db nb mb u_DEFAULTCAPACITY_EMPTY_ELEMENTDATA cl_u_DEFAULTCAPACITY_EMPTY_ELEMENTDATA mr h0 n0 v U'.heap L ∧ FrameEnd U o U' L ({ frames := 5, cells := 1, slots := 0, locals := 97 } : Room).cells ({ frames := 5, cells := 1, slots := 0, locals := 97 } : Room).slots) := by
  refine MetFree.of_bodySF (plainFor_of_name pn_3) hisR ?_
  intro p e s m args below meth c s₁ Bd hml0 hP hK
  obtain ⟨rfl, hZ, hh⟩ := hP
  have hx := Bd.exec
  have hby := Bd.bytes
  have hml : c.maxLocals = 2 := hml0
  have hown : s.vm.findClass "com/example/batchrake/batchrake/DeleteReport" = some m.cls := findClass_of_methodNamed Bd.named
  have hnm := (name_of_methodNamed Bd.named Bd.method).1
  have X0 : Stand p l e ({ frames := 5, cells := 1, slots := 0, locals := 97 } : Room) s m #[(.ref ra), (.ref rb)] below meth c s₁ [] 0 0 := Stand.of_body Bd
  have e0 : s₁.heap = h0 := by rw [← hh, Bd.state]; rfl
  have N0 := Fr.nil n0
  have pre0 : ∀ t, Steps p.tables e below (s₁.setTop (mkF m 0 #[.val (.ref ra), .val (.ref rb)] [])) t → Steps p.tables e below (s₁.setTop (entryFrame m #[(.ref ra), (.ref rb)] 2)) t := fun t k => castTop (ef_32 m ra rb) k
  obtain ⟨T1, X1, e1, st1⟩ := getF X0 hx hZ hown (host := "") (Or.inl (wd hw 97 rfl)) Via.refl e0 AFd (g := (mkF m 2 #[.val (.ref ra), .val (.ref rb)] [(.ref ra), (.ref ra)])) rfl rfl (hb hby d32_2)
  obtain ⟨T2, X2, e2, st2⟩ := getF X1 hx hZ hown (host := "") (Or.inl (wd hw 97 rfl)) Via.refl e1 BFd (g := (mkF m 6 #[.val (.ref ra), .val (.ref rb)] [(.ref rb), (.int da), (.ref ra)])) rfl rfl (hb hby d32_6)
  obtain ⟨T3, h3, X3, e3, W3, st3⟩ := putF X2 hx hZ hown (host := "") (Or.inl (wd hw 97 rfl)) Via.refl e2 AFd AEr (Or.inl (wd hw 98 rfl)) (wd hw 2 rfl) (ty := .int) (by decide) rfl rfl (g := (mkF m 10 #[.val (.ref ra), .val (.ref rb)] [(.int (da + db)), (.ref ra)])) rfl rfl (hb hby d32_10)
  have Fw3 : Fld Z h3 ra "com/example/batchrake/batchrake/DeleteReport" "deleted" "I" (.int (da + db)) := AFd.same W3
  have F4 := S_DEFAULTCAPACITY_EMPTY_ELEMENTDATA.wr W3
  have F5 := V_u_DEFAULTCAPACITY_EMPTY_ELEMENTDATA.other W3 hr_u_DEFAULTCAPACITY_EMPTY_ELEMENTDATA
  have F6 := E_u_DEFAULTCAPACITY_EMPTY_ELEMENTDATA.wr W3
  have F7 := AEr.wr W3
  have F8 := AFf.other W3 (Or.inr (slot_ne (Or.inr (wd hw 46 rfl)) (Or.inl (wd hw 98 rfl)) (by decide) (t := (.object "java/util/List")) (t' := .int) (by decide) (by decide)))
  have F10 := AFn.other W3 (Or.inr (slot_ne (Or.inl (wd hw 155 rfl)) (Or.inl (wd hw 98 rfl)) (by decide) (t := .int) (t' := .int) (by decide) (by decide)))
  have F11 := AEl.wr W3
  have F12 := AFm.other W3 (Or.inl hr_la)
  have F13 := AFz.other W3 (Or.inl hr_la)
  have F14 := AFe.other W3 (Or.inl hr_la)
  have F15 := BEr.wr W3
  have F16 := BFf.other W3 (Or.inl hr_rb)
  have F17 := BFd.other W3 (Or.inl hr_rb)
  have F18 := BFn.other W3 (Or.inl hr_rb)
  have F19 := BEl.wr W3
  have F20 := BFm.other W3 (Or.inl hr_lb)
  have F21 := BFz.other W3 (Or.inl hr_lb)
  have F22 := BFe.other W3 (Or.inl hr_lb)
  have N3 := Fr.snoc X3 N0 g_ra
  have K3 : Keep h0 h3 [ra, la] := (Keep.refl h0 [ra, la]).wr W3 (Or.inl (List.mem_of_getElem? (i := 0) rfl))
  have Zs3 : n0 ≤ h3.size := by rw [W3.size]; exact Z0
  obtain ⟨T23, X23, e23, st23⟩ := getF X3 hx hZ hown (host := "") (Or.inl (wd hw 154 rfl)) Via.refl e3 F10 (g := (mkF m 15 #[.val (.ref ra), .val (.ref rb)] [(.ref ra), (.ref ra)])) rfl rfl (hb hby d32_15)
  obtain ⟨T24, X24, e24, st24⟩ := getF X23 hx hZ hown (host := "") (Or.inl (wd hw 154 rfl)) Via.refl e23 F18 (g := (mkF m 19 #[.val (.ref ra), .val (.ref rb)] [(.ref rb), (.int na), (.ref ra)])) rfl rfl (hb hby d32_19)
  obtain ⟨T25, h25, X25, e25, W25, st25⟩ := putF X24 hx hZ hown (host := "") (Or.inl (wd hw 154 rfl)) Via.refl e24 F10 F7 (Or.inl (wd hw 155 rfl)) (wd hw 2 rfl) (ty := .int) (by decide) rfl rfl (g := (mkF m 23 #[.val (.ref ra), .val (.ref rb)] [(.int (na + nb)), (.ref ra)])) rfl rfl (hb hby d32_23)
  have Fw25 : Fld Z h25 ra "com/example/batchrake/batchrake/DeleteReport" "notFound" "I" (.int (na + nb)) := F10.same W25
  have F26 := F4.wr W25
  have F27 := F5.other W25 hr_u_DEFAULTCAPACITY_EMPTY_ELEMENTDATA
  have F28 := F6.wr W25
  have F29 := F7.wr W25
  have F30 := F8.other W25 (Or.inr (slot_ne (Or.inr (wd hw 46 rfl)) (Or.inl (wd hw 155 rfl)) (by decide) (t := (.object "java/util/List")) (t' := .int) (by decide) (by decide)))
  have F32 := F11.wr W25
  have F33 := F12.other W25 (Or.inl hr_la)
  have F34 := F13.other W25 (Or.inl hr_la)
  have F35 := F14.other W25 (Or.inl hr_la)
  have F36 := F15.wr W25
  have F37 := F16.other W25 (Or.inl hr_rb)
  have F38 := F17.other W25 (Or.inl hr_rb)
  have F39 := F18.other W25 (Or.inl hr_rb)
  have F40 := F19.wr W25
  have F41 := F20.other W25 (Or.inl hr_lb)
  have F42 := F21.other W25 (Or.inl hr_lb)
  have F43 := F22.other W25 (Or.inl hr_lb)
  have F44 := Fw3.other W25 (Or.inr (slot_ne (Or.inl (wd hw 98 rfl)) (Or.inl (wd hw 155 rfl)) (by decide) (t := .int) (t' := .int) (by decide) (by decide)))
  have N25 := Fr.snoc X25 N3 g_ra
  have K25 : Keep h0 h25 [ra, la] := K3.wr W25 (Or.inl (List.mem_of_getElem? (i := 0) rfl))
  have Zs25 : n0 ≤ h25.size := by rw [W25.size]; exact Zs3
  obtain ⟨T45, X45, e45, st45⟩ := getF X25 hx hZ hown (host := "") (Or.inl (wd hw 45 rfl)) Via.refl e25 F30 (g := (mkF m 27 #[.val (.ref ra), .val (.ref rb)] [(.ref ra)])) rfl rfl (hb hby d32_27)
  obtain ⟨T46, X46, e46, st46⟩ := getF X45 hx hZ hown (host := "") (Or.inl (wd hw 45 rfl)) Via.refl e45 F37 (g := (mkF m 31 #[.val (.ref ra), .val (.ref rb)] [(.ref rb), (.ref la)])) rfl rfl (hb hby d32_31)
  obtain ⟨cq47, kq47, q47a, q47b, q47c⟩ := isOf hZ e46 F32
  obtain ⟨_, _, ⟨T47, L47, k47, n47⟩, -, X47, ⟨Lc47, hQ47, l47, y47, z47⟩, st47⟩ := X46.interfaceBack hx (xi := (⟨"java/util/List", "addAll", "(Ljava/util/Collection;)Z"⟩ : MethodName)) (y := (⟨"java/util/ArrayList", "addAll", "(Ljava/util/Collection;)Z"⟩ : MethodName)) hown (mvT hZ (wd hw 156 rfl)) (mvT hZ (wd hw 157 rfl)) (mvT hZ (wd hw 158 rfl)) (mvT hZ (wd hw 159 rfl)) (mvT hZ (wd hw 160 rfl)) (mvT hZ (wd hw 161 rfl)) (mvT hZ (wd hw 162 rfl)) (mvT hZ (wd hw 119 rfl)) (by decide) (backOf (W := 0) (rm31 l Z a0 hw [] la lb ma mb u_DEFAULTCAPACITY_EMPTY_ELEMENTDATA cl_u_DEFAULTCAPACITY_EMPTY_ELEMENTDATA mr h25 n0 Zs25 F26 F27 F28 F32 F33 F34 F35 F40 F41 F42 F43 hmir hnd g_la) hZ (wd hw 163 rfl) (wd hw 23 rfl) (by decide) (by decide)) q47a q47b q47c (g := (mkF m 34 #[.val (.ref ra), .val (.ref rb)] [(.ref lb), (.ref la)])) rfl (by rw [hml]; rfl) (Steps.refl _) (argsL := [(.ref lb)]) (rest := []) (lenOf pd_12 rfl) rfl (by show 2 * 0 + _ ≤ _; exact Nat.le_of_eq rfl) (hb hby d32_34) (fun _ _ => ⟨rfl, e46, (by decide : 0 + 1 ≤ _), (by decide : 0 + 0 ≤ _)⟩)
  dsimp only [Pt.U, Pt.locs, Pt.cells, Pt.slots] at X47 l47 y47 z47 st47 hQ47
  rw [l47, y47, z47] at X47
  obtain ⟨rfl, N47q, Kc47, G47_0, G47_1⟩ := hQ47
  have Zs47 : n0 ≤ T47.heap.size := Nat.le_trans Zs25 Kc47.1
  have K47 : Keep h0 T47.heap [ra, la] := K25.trans Kc47 (allS (Or.inl (List.mem_of_getElem? (i := 1) rfl)) all0)
  have F48 := own_stakeep F26 Kc47 (allS (own_nsE F32) all0)
  have F49 := F27.keep Kc47 (ninS hnd nin0)
  have F50 := F28.keep Kc47
  have F51 := F29.keep Kc47
  have F52 := F30.keep Kc47 (ninS (Ne.symm hr_la) nin0)
  have F55 := F36.keep Kc47
  have F59 := F40.keep Kc47
  have F63 := F44.keep Kc47 (ninS (Ne.symm hr_la) nin0)
  have F64 := Fw25.keep Kc47 (ninS (Ne.symm hr_la) nin0)
  have N47 := Fr.app N25 N47q
  have k65 : ∀ t, Steps p.tables e below (T47.setTop (mkF m 40 #[.val (.ref ra), .val (.ref rb)] [])) t → Steps p.tables e below (s₁.setTop (entryFrame m #[(.ref ra), (.ref rb)] 2)) t := by
    intro t k
    refine pre0 t ?_
    refine XS.aloadN X0.here hx rfl (hb hby d32_0) rfl rfl ?_
    refine XS.dup X0.here hx rfl (hb hby d32_1) rfl rfl ?_
    refine st1 _ ?_
    refine XS.aloadN X1.here hx rfl (hb hby d32_5) rfl rfl ?_
    refine st2 _ ?_
    refine XS.iadd X2.here hx rfl (hb hby d32_9) rfl ?_
    refine st3 _ ?_
    refine XS.aloadN X3.here hx rfl (hb hby d32_13) rfl rfl ?_
    refine XS.dup X3.here hx rfl (hb hby d32_14) rfl rfl ?_
    refine st23 _ ?_
    refine XS.aloadN X23.here hx rfl (hb hby d32_18) rfl rfl ?_
    refine st24 _ ?_
    refine XS.iadd X24.here hx rfl (hb hby d32_22) rfl ?_
    show Steps p.tables e below (T24.setTop (mkF m 23 #[.val (.ref ra), .val (.ref rb)] [(.int (na + nb)), (.ref ra)])) _
    refine st25 _ ?_
    refine XS.aloadN X25.here hx rfl (hb hby d32_26) rfl rfl ?_
    refine st45 _ ?_
    refine XS.aloadN X45.here hx rfl (hb hby d32_30) rfl rfl ?_
    refine st46 _ ?_
    refine st47.trans ?_
    refine XS.pop X47.here hx rfl (hb hby d32_39) rfl rfl ?_
    exact k
  obtain ⟨fs, hr, hrun, hended, hW, hsame⟩ := X47.leave (v := none) (fun _ => rfl)
  refine ⟨_, _, k65 _ ?_, hrun, hended, _, _, rfl, ?_, ⟨_, rfl⟩, hW, hsame.mono (by decide) (by decide)⟩
  · exact X47.returnOut hx Bd.returns (hb hby d32_40) hr
  · show Q32 Z ra rb la da na ma lb db nb mb u_DEFAULTCAPACITY_EMPTY_ELEMENTDATA cl_u_DEFAULTCAPACITY_EMPTY_ELEMENTDATA mr h0 n0 _ T47.heap _
    exact ⟨rfl, N47, K47, F51, F52, G47_0, G47_1⟩
theorem d33_0 : decode jdk_38_method_41_code 0 = .ok (.aload_n 1, 1) := by decide +kernel
theorem d33_1 : decode jdk_38_method_41_code 1 = .ok (.invokeinterface 42 1, 5) := by decide +kernel
theorem d33_6 : decode jdk_38_method_41_code 6 = .ok (.astore_n 2, 1) := by decide +kernel
theorem d33_7 : decode jdk_38_method_41_code 7 = .ok (.aload_n 0, 1) := by decide +kernel
theorem d33_8 : decode jdk_38_method_41_code 8 = .ok (.dup, 1) := by decide +kernel
theorem d33_9 : decode jdk_38_method_41_code 9 = .ok (.getfield 63, 3) := by decide +kernel
theorem d33_12 : decode jdk_38_method_41_code 12 = .ok (.iconst 1, 1) := by decide +kernel
theorem d33_13 : decode jdk_38_method_41_code 13 = .ok (.iadd, 1) := by decide +kernel
theorem d33_14 : decode jdk_38_method_41_code 14 = .ok (.putfield 63, 3) := by decide +kernel
theorem d33_17 : decode jdk_38_method_41_code 17 = .ok (.aload_n 2, 1) := by decide +kernel
theorem d33_18 : decode jdk_38_method_41_code 18 = .ok (.arraylength, 1) := by decide +kernel
theorem d33_19 : decode jdk_38_method_41_code 19 = .ok (.istore_n 3, 1) := by decide +kernel
theorem d33_20 : decode jdk_38_method_41_code 20 = .ok (.iload_n 3, 1) := by decide +kernel
theorem d33_21 : decode jdk_38_method_41_code 21 = .ok (.ifCond .ne 5, 3) := by decide +kernel
theorem d33_26 : decode jdk_38_method_41_code 26 = .ok (.iload_n 3, 1) := by decide +kernel
theorem d33_27 : decode jdk_38_method_41_code 27 = .ok (.aload_n 0, 1) := by decide +kernel
theorem d33_28 : decode jdk_38_method_41_code 28 = .ok (.getfield 9, 3) := by decide +kernel
theorem d33_31 : decode jdk_38_method_41_code 31 = .ok (.dup, 1) := by decide +kernel
theorem d33_32 : decode jdk_38_method_41_code 32 = .ok (.astore 4, 2) := by decide +kernel
theorem d33_34 : decode jdk_38_method_41_code 34 = .ok (.arraylength, 1) := by decide +kernel
theorem d33_35 : decode jdk_38_method_41_code 35 = .ok (.aload_n 0, 1) := by decide +kernel
theorem d33_36 : decode jdk_38_method_41_code 36 = .ok (.getfield 48, 3) := by decide +kernel
theorem d33_39 : decode jdk_38_method_41_code 39 = .ok (.dup, 1) := by decide +kernel
theorem d33_40 : decode jdk_38_method_41_code 40 = .ok (.istore 5, 2) := by decide +kernel
theorem d33_42 : decode jdk_38_method_41_code 42 = .ok (.isub, 1) := by decide +kernel
theorem d33_43 : decode jdk_38_method_41_code 43 = .ok (.if_icmp .le 13, 3) := by decide +kernel
theorem d33_46 : decode jdk_38_method_41_code 46 = .ok (.aload_n 0, 1) := by decide +kernel
theorem d33_47 : decode jdk_38_method_41_code 47 = .ok (.iload 5, 2) := by decide +kernel
theorem d33_49 : decode jdk_38_method_41_code 49 = .ok (.iload_n 3, 1) := by decide +kernel
theorem d33_50 : decode jdk_38_method_41_code 50 = .ok (.iadd, 1) := by decide +kernel
theorem d33_51 : decode jdk_38_method_41_code 51 = .ok (.invokevirtual 69, 3) := by decide +kernel
theorem d33_54 : decode jdk_38_method_41_code 54 = .ok (.astore 4, 2) := by decide +kernel
theorem d33_56 : decode jdk_38_method_41_code 56 = .ok (.aload_n 2, 1) := by decide +kernel
theorem d33_57 : decode jdk_38_method_41_code 57 = .ok (.iconst 0, 1) := by decide +kernel
theorem d33_58 : decode jdk_38_method_41_code 58 = .ok (.aload 4, 2) := by decide +kernel
theorem d33_60 : decode jdk_38_method_41_code 60 = .ok (.iload 5, 2) := by decide +kernel
theorem d33_62 : decode jdk_38_method_41_code 62 = .ok (.iload_n 3, 1) := by decide +kernel
theorem d33_63 : decode jdk_38_method_41_code 63 = .ok (.invokestatic 112, 3) := by decide +kernel
theorem d33_66 : decode jdk_38_method_41_code 66 = .ok (.aload_n 0, 1) := by decide +kernel
theorem d33_67 : decode jdk_38_method_41_code 67 = .ok (.iload 5, 2) := by decide +kernel
theorem d33_69 : decode jdk_38_method_41_code 69 = .ok (.iload_n 3, 1) := by decide +kernel
theorem d33_70 : decode jdk_38_method_41_code 70 = .ok (.iadd, 1) := by decide +kernel
theorem d33_71 : decode jdk_38_method_41_code 71 = .ok (.putfield 48, 3) := by decide +kernel
theorem d33_74 : decode jdk_38_method_41_code 74 = .ok (.iconst 1, 1) := by decide +kernel
theorem d33_75 : decode jdk_38_method_41_code 75 = .ok (.ireturn, 1) := by decide +kernel
theorem ef_33 (m : MethodId) (la : Addr) (lb : Addr) : entryFrame m #[(.ref la), (.ref lb)] 6 = mkF m 0 #[.val (.ref la), .val (.ref lb), .unset, .unset, .unset, .unset] [] := by first | (simp [entryFrame, mkF, argsToLocals, Value.category]; done) | rfl
def Q33 (Z : State) (la : Addr) (lb : Addr) (ma : Int32) (mb : Int32) (eb : Addr) (kb : ClassId) (bx0 : Addr) (u_DEFAULTCAPACITY_EMPTY_ELEMENTDATA : Addr) (cl_u_DEFAULTCAPACITY_EMPTY_ELEMENTDATA : Cell) (mr : Addr) (h0 : Heap) (n0 : Nat) (v : Option Value) (h : Heap) (L : List Loc) : Prop := v = some (.int (1 : Int32)) ∧ Fr n0 L ∧ Keep h0 h [la] ∧ Exa Z h la "java/util/ArrayList" ∧ Fld Z h la "java/util/ArrayList" "size" "I" (.int (1 : Int32))
set_option maxRecDepth 65536 in
set_option maxHeartbeats 40000000 in
theorem rm33 (l : Launch) (Z : State) (a0 : Array Value) (hw : ∀ d ∈ tables_1, d.before a0 Z = true) (ws : List Jvm.Cond) (la : Addr) (lb : Addr) (ma : Int32) (mb : Int32) (eb : Addr) (kb : ClassId) (bx0 : Addr) (u_DEFAULTCAPACITY_EMPTY_ELEMENTDATA : Addr) (cl_u_DEFAULTCAPACITY_EMPTY_ELEMENTDATA : Cell) (mr : Addr) (h0 : Heap) (n0 : Nat) (Z0 : n0 ≤ h0.size) (S_DEFAULTCAPACITY_EMPTY_ELEMENTDATA : Sta Z h0 "java/util/ArrayList" "DEFAULTCAPACITY_EMPTY_ELEMENTDATA" "[Ljava/lang/Object;" (.ref u_DEFAULTCAPACITY_EMPTY_ELEMENTDATA)) (V_u_DEFAULTCAPACITY_EMPTY_ELEMENTDATA : Arv Z h0 u_DEFAULTCAPACITY_EMPTY_ELEMENTDATA cl_u_DEFAULTCAPACITY_EMPTY_ELEMENTDATA.cls (.object "java/lang/Object") (0 : Int32) [] .null) (E_u_DEFAULTCAPACITY_EMPTY_ELEMENTDATA : Exa Z h0 u_DEFAULTCAPACITY_EMPTY_ELEMENTDATA "[Ljava/lang/Object;") (AEl : Exa Z h0 la "java/util/ArrayList") (AFm : Fld Z h0 la "java/util/AbstractList" "modCount" "I" (.int ma)) (AFz : Fld Z h0 la "java/util/ArrayList" "size" "I" (.int (0 : Int32))) (AFe : Fld Z h0 la "java/util/ArrayList" "elementData" "[Ljava/lang/Object;" (.ref u_DEFAULTCAPACITY_EMPTY_ELEMENTDATA)) (BEl : Exa Z h0 lb "java/util/ArrayList") (BFm : Fld Z h0 lb "java/util/AbstractList" "modCount" "I" (.int mb)) (BFz : Fld Z h0 lb "java/util/ArrayList" "size" "I" (.int (1 : Int32))) (BFe : Fld Z h0 lb "java/util/ArrayList" "elementData" "[Ljava/lang/Object;" (.ref eb)) (BVe : Arv Z h0 eb kb (.object "java/lang/Object") (10 : Int32) [(.ref bx0), .null, .null, .null, .null, .null, .null, .null, .null, .null] .null) (BEd : Exa Z h0 eb "[Ljava/lang/Object;") (BEbx0 : Exa Z h0 bx0 "com/example/batchrake/batchrake/DeleteReport$Failure") (hmir : Mir Z "[Ljava/lang/Object;" mr) (hnd : u_DEFAULTCAPACITY_EMPTY_ELEMENTDATA ≠ la) (g_la : n0 ≤ la) :
    MetFree l (⟨"java/util/ArrayList", "addAll", "(Ljava/util/Collection;)Z"⟩ : MethodName) (head1 (Jvm.Cond.code (⟨"java/util/ArrayList", "addAll", "(Ljava/util/Collection;)Z"⟩ : MethodName) jdk_38_method_41_code 6 (some .boolean) :: ws) ({ frames := 4, cells := 2, slots := 11, locals := 80 } : Room)) (fun a U => a = #[(.ref la), (.ref lb)] ∧ Z.Warmed39 U.vm ∧ U.heap = h0) (fun _ _ _ _ _ => True) (fun _ U o U' => ∃ v L, o = .returned v ∧ Q33 Z la lb ma mb eb kb bx0 u_DEFAULTCAPACITY_EMPTY_ELEMENTDATA cl_u_DEFAULTCAPACITY_EMPTY_ELEMENTDATA mr h0 n0 v U'.heap L ∧ FrameEnd U o U' L ({ frames := 4, cells := 2, slots := 11, locals := 80 } : Room).cells ({ frames := 4, cells := 2, slots := 11, locals := 80 } : Room).slots) := by
  refine MetFree.of_bodySF (plainFor_of_name pn_2) hisR ?_
  intro p e s m args below meth c s₁ Bd hml0 hP hK
  obtain ⟨rfl, hZ, hh⟩ := hP
  have hx := Bd.exec
  have hby := Bd.bytes
  have hml : c.maxLocals = 6 := hml0
  have hown : s.vm.findClass "java/util/ArrayList" = some m.cls := findClass_of_methodNamed Bd.named
  have hnm := (name_of_methodNamed Bd.named Bd.method).1
  have X0 : Stand p l e ({ frames := 4, cells := 2, slots := 11, locals := 80 } : Room) s m #[(.ref la), (.ref lb)] below meth c s₁ [] 0 0 := Stand.of_body Bd
  have e0 : s₁.heap = h0 := by rw [← hh, Bd.state]; rfl
  have N0 := Fr.nil n0
  have pre0 : ∀ t, Steps p.tables e below (s₁.setTop (mkF m 0 #[.val (.ref la), .val (.ref lb), .unset, .unset, .unset, .unset] [])) t → Steps p.tables e below (s₁.setTop (entryFrame m #[(.ref la), (.ref lb)] 6)) t := fun t k => castTop (ef_33 m la lb) k
  obtain ⟨cq1, kq1, q1a, q1b, q1c⟩ := isOf hZ e0 BEl
  obtain ⟨_, _, ⟨T1, L1, k1, n1⟩, -, X1, ⟨Lc1, hQ1, l1, y1, z1⟩, st1⟩ := X0.interfaceBack hx (xi := (⟨"java/util/Collection", "toArray", "()[Ljava/lang/Object;"⟩ : MethodName)) (y := (⟨"java/util/ArrayList", "toArray", "()[Ljava/lang/Object;"⟩ : MethodName)) hown (mvT hZ (wd hw 164 rfl)) (mvT hZ (wd hw 165 rfl)) (mvT hZ (wd hw 166 rfl)) (mvT hZ (wd hw 167 rfl)) (mvT hZ (wd hw 168 rfl)) (mvT hZ (wd hw 169 rfl)) (mvT hZ (wd hw 170 rfl)) (mvT hZ (wd hw 171 rfl)) (by decide) (backOf (W := 0) (rm30 l Z a0 hw [] lb mr kb bx0 eb h0 n0 Z0 BEl BFz BFe BVe BEbx0 BEd hmir) hZ (wd hw 172 rfl) (wd hw 23 rfl) (by decide) (by decide)) q1a q1b q1c (g := (mkF m 1 #[.val (.ref la), .val (.ref lb), .unset, .unset, .unset, .unset] [(.ref lb)])) rfl (by rw [hml]; rfl) (Steps.refl _) (argsL := []) (rest := []) (lenOf pd_8 rfl) rfl (by show 2 * 0 + _ ≤ _; exact Nat.le_of_eq rfl) (hb hby d33_1) (fun _ _ => ⟨rfl, e0, (by decide : 0 + 1 ≤ _), (by decide : 0 + 1 ≤ _)⟩)
  dsimp only [Pt.U, Pt.locs, Pt.cells, Pt.slots] at X1 l1 y1 z1 st1 hQ1
  rw [l1, y1, z1] at X1
  obtain ⟨cx_1, kc_1, rfl, N1q, Kc1, ggcx_1, szcx_1, G1_0⟩ := hQ1
  have ne2 : u_DEFAULTCAPACITY_EMPTY_ELEMENTDATA ≠ cx_1 := Nat.ne_of_lt (Nat.lt_of_lt_of_le V_u_DEFAULTCAPACITY_EMPTY_ELEMENTDATA.lt szcx_1)
  have ne3 : la ≠ cx_1 := Nat.ne_of_lt (Nat.lt_of_lt_of_le AEl.lt szcx_1)
  have ne4 : lb ≠ cx_1 := Nat.ne_of_lt (Nat.lt_of_lt_of_le BEl.lt szcx_1)
  have ne5 : eb ≠ cx_1 := Nat.ne_of_lt (Nat.lt_of_lt_of_le BVe.lt szcx_1)
  have ne6 : bx0 ≠ cx_1 := Nat.ne_of_lt (Nat.lt_of_lt_of_le BEbx0.lt szcx_1)
  have szzcx_1 : h0.size ≤ cx_1 := Nat.le_trans (Keep.refl h0 [la]).1 szcx_1
  have Zs1 : n0 ≤ T1.heap.size := Nat.le_trans Z0 Kc1.1
  have K1 : Keep h0 T1.heap [la] := (Keep.refl h0 [la]).trans Kc1 all0
  have F7 := own_stakeep S_DEFAULTCAPACITY_EMPTY_ELEMENTDATA Kc1 all0
  have F8 := V_u_DEFAULTCAPACITY_EMPTY_ELEMENTDATA.keep Kc1 nin0
  have F9 := E_u_DEFAULTCAPACITY_EMPTY_ELEMENTDATA.keep Kc1
  have F10 := AEl.keep Kc1
  have F11 := AFm.keep Kc1 nin0
  have F12 := AFz.keep Kc1 nin0
  have F13 := AFe.keep Kc1 nin0
  have F14 := BEl.keep Kc1
  have F15 := BFm.keep Kc1 nin0
  have F16 := BFz.keep Kc1 nin0
  have F17 := BFe.keep Kc1 nin0
  have F18 := BVe.keep Kc1 nin0
  have F19 := BEd.keep Kc1
  have F20 := BEbx0.keep Kc1
  have N1 := Fr.app N0 N1q
  obtain ⟨T21, X21, e21, st21⟩ := getF X1 hx hZ hown (host := "") (Or.inl (wd hw 121 rfl)) (Via.of (wd hw 122 rfl)) rfl F11 (g := (mkF m 9 #[.val (.ref la), .val (.ref lb), .val (.ref cx_1), .unset, .unset, .unset] [(.ref la), (.ref la)])) rfl rfl (hb hby d33_9)
  obtain ⟨T22, h22, X22, e22, W22, st22⟩ := putF X21 hx hZ hown (host := "") (Or.inl (wd hw 121 rfl)) (Via.of (wd hw 122 rfl)) e21 F11 F10 (Or.inl (wd hw 41 rfl)) (wd hw 22 rfl) (ty := .int) (by decide) rfl rfl (g := (mkF m 14 #[.val (.ref la), .val (.ref lb), .val (.ref cx_1), .unset, .unset, .unset] [(.int (ma + (1 : Int32))), (.ref la)])) rfl rfl (hb hby d33_14)
  have Fw22 : Fld Z h22 la "java/util/AbstractList" "modCount" "I" (.int (ma + (1 : Int32))) := F11.same W22
  have F23 := F7.wr W22
  have F24 := F8.other W22 hnd
  have F25 := F9.wr W22
  have F26 := F10.wr W22
  have F28 := F12.other W22 (Or.inr (slot_ne (Or.inl (wd hw 124 rfl)) (Or.inl (wd hw 41 rfl)) (by decide) (t := .int) (t' := .int) (by decide) (by decide)))
  have F29 := F13.other W22 (Or.inr (slot_ne (Or.inl (wd hw 44 rfl)) (Or.inl (wd hw 41 rfl)) (by decide) (t := (.array (.object "java/lang/Object"))) (t' := .int) (by decide) (by decide)))
  have F30 := F14.wr W22
  have F35 := F19.wr W22
  have F36 := F20.wr W22
  have F37 := G1_0.other W22 (Ne.symm ne3)
  have N22 := Fr.snoc X22 N1 g_la
  have K22 : Keep h0 h22 [la] := K1.wr W22 (Or.inl (List.mem_of_getElem? (i := 0) rfl))
  have Zs22 : n0 ≤ h22.size := by rw [W22.size]; exact Zs1
  obtain ⟨cl38, Ar38, qc38, Sz38, Nn38, Hh38, Gg38⟩ := (id F37)
  obtain ⟨T39, X39, e39, st39⟩ := getF X22 hx hZ hown (host := "") (Or.inl (wd hw 43 rfl)) Via.refl e22 F29 (g := (mkF m 28 #[.val (.ref la), .val (.ref lb), .val (.ref cx_1), .val (.int (1 : Int32)), .unset, .unset] [(.ref la), (.int (1 : Int32))])) rfl rfl (hb hby d33_28)
  obtain ⟨cl40, Ar40, qc40, Sz40, Nn40, Hh40, Gg40⟩ := (id F24)
  obtain ⟨T41, X41, e41, st41⟩ := getF X39 hx hZ hown (host := "") (Or.inl (wd hw 123 rfl)) Via.refl e39 F28 (g := (mkF m 36 #[.val (.ref la), .val (.ref lb), .val (.ref cx_1), .val (.int (1 : Int32)), .val (.ref u_DEFAULTCAPACITY_EMPTY_ELEMENTDATA), .unset] [(.ref la), (.int (0 : Int32)), (.int (1 : Int32))])) rfl rfl (hb hby d33_36)
  obtain ⟨cq42, q42, q42'⟩ := F26.cell
  obtain ⟨_, _, ⟨T42, L42, k42, n42⟩, -, X42, ⟨Lc42, hQ42, l42, y42, z42⟩, st42⟩ := X41.privateBack hx (y := (⟨"java/util/ArrayList", "grow", "(I)[Ljava/lang/Object;"⟩ : MethodName)) hown (mvT hZ (wd hw 135 rfl)) (mvT hZ (wd hw 136 rfl)) (mvT hZ (wd hw 138 rfl)) (Cond.privateMethod_at (mvP hZ (wd hw 137 rfl) (args := #[]))) (mvT hZ (wd hw 139 rfl)) (by decide) (backOf (W := 0) (rm19 l Z a0 hw [] la (ma + (1 : Int32)) u_DEFAULTCAPACITY_EMPTY_ELEMENTDATA cl_u_DEFAULTCAPACITY_EMPTY_ELEMENTDATA h22 n0 Zs22 F26 Fw22 F28 F29 F23 F24 g_la) hZ (wd hw 139 rfl) (wd hw 23 rfl) (by decide) (by decide)) (g := (mkF m 51 #[.val (.ref la), .val (.ref lb), .val (.ref cx_1), .val (.int (1 : Int32)), .val (.ref u_DEFAULTCAPACITY_EMPTY_ELEMENTDATA), .val (.int (0 : Int32))] [(.int (1 : Int32)), (.ref la)])) rfl (by rw [hml]; rfl) (Steps.refl _) (a := la) (by rw [e41]; exact q42) q42' (argsL := [(.int (1 : Int32))]) (rest := []) (lenOf pd_7 rfl) rfl (by show 2 * 0 + _ ≤ _; exact Nat.le_of_eq rfl) (hb hby d33_51) (fun _ _ => ⟨rfl, e41, (by decide : 1 + 1 ≤ _), (by decide : 1 + 10 ≤ _)⟩)
  dsimp only [Pt.U, Pt.locs, Pt.cells, Pt.slots] at X42 l42 y42 z42 st42 hQ42
  rw [l42, y42, z42] at X42
  obtain ⟨ed_42, ke_42, rfl, N42q, Kc42, gged_42, szed_42, G42_0, G42_1, G42_2, G42_3, G42_4, G42_5, P42_0⟩ := hQ42
  have ne43 : u_DEFAULTCAPACITY_EMPTY_ELEMENTDATA ≠ ed_42 := Nat.ne_of_lt (Nat.lt_of_lt_of_le F24.lt szed_42)
  have ne44 : la ≠ ed_42 := Nat.ne_of_lt (Nat.lt_of_lt_of_le F26.lt szed_42)
  have ne45 : lb ≠ ed_42 := Nat.ne_of_lt (Nat.lt_of_lt_of_le F30.lt szed_42)
  have ne46 : eb ≠ ed_42 := Nat.ne_of_lt (Nat.lt_of_lt_of_le F35.lt szed_42)
  have ne47 : bx0 ≠ ed_42 := Nat.ne_of_lt (Nat.lt_of_lt_of_le F36.lt szed_42)
  have ne48 : cx_1 ≠ ed_42 := Nat.ne_of_lt (Nat.lt_of_lt_of_le F37.lt szed_42)
  have szzed_42 : h0.size ≤ ed_42 := Nat.le_trans K22.1 szed_42
  have Zs42 : n0 ≤ T42.heap.size := Nat.le_trans Zs22 Kc42.1
  have K42 : Keep h0 T42.heap [la] := K22.trans Kc42 (allS (Or.inl (List.mem_of_getElem? (i := 0) rfl)) all0)
  have F49 := own_stakeep F23 Kc42 (allS (own_nsE F26) all0)
  have F50 := F24.keep Kc42 (ninS hnd nin0)
  have F51 := F25.keep Kc42
  have F52 := F30.keep Kc42
  have F53 := F35.keep Kc42
  have F54 := F36.keep Kc42
  have F55 := F37.keep Kc42 (ninS (Ne.symm ne3) nin0)
  have N42 := Fr.app N22 N42q
  obtain ⟨cl56, Ar56, qc56, Sz56, Nn56, Hh56, Gg56⟩ := (id G42_4)
  obtain ⟨T57, h57, L57, X57, e57, N57, Kc57, V57, st57⟩ := cpA X42 hx hZ hown (wd hw 195 rfl) (wd hw 194 rfl) (wd hw 192 rfl) (wd hw 193 rfl) rfl F55 G42_4 (Or.inr ⟨rfl, rfl, (show StoL Z T42.heap ed_42 [.ref bx0] from ⟨Sto.ofV Ar56 qc56 P42_0 (Ins.of_exa F54 (wd hw 146 rfl)), trivial⟩)⟩) (by decide) (by decide) (by decide) (by decide) (by decide) rfl (Nat.le_of_ble_eq_true rfl) N42 gged_42 (g := (mkF m 63 #[.val (.ref la), .val (.ref lb), .val (.ref cx_1), .val (.int (1 : Int32)), .val (.ref ed_42), .val (.int (0 : Int32))] [(.int (1 : Int32)), (.int (0 : Int32)), (.ref ed_42), (.int (0 : Int32)), (.ref cx_1)])) rfl (by rw [hml]; rfl) rfl (hb hby d33_63) (by decide) (W := 0) (by show 2 * 0 + _ ≤ _; exact Nat.le_of_eq rfl) (by decide)
  have Zs57 : n0 ≤ h57.size := Nat.le_trans Zs42 Kc57.1
  have K57 : Keep h0 h57 [la] := K42.trans Kc57 (allS (Or.inr szzed_42) all0)
  have F58 := own_stakeep F49 Kc57 (allS (own_nsE G42_5) all0)
  have F59 := F50.keep Kc57 (ninS ne43 nin0)
  have F60 := F51.keep Kc57
  have F61 := F52.keep Kc57
  have F62 := F53.keep Kc57
  have F63 := F54.keep Kc57
  have F64 := F55.keep Kc57 (ninS ne48 nin0)
  have F65 := G42_0.keep Kc57
  have F66 := G42_1.keep Kc57 (ninS ne44 nin0)
  have F67 := G42_2.keep Kc57 (ninS ne44 nin0)
  have F68 := G42_3.keep Kc57 (ninS ne44 nin0)
  have F70 := G42_5.keep Kc57
  have Vc57 : Arv Z h57 ed_42 ke_42 (.object "java/lang/Object") (10 : Int32) [(.ref bx0), .null, .null, .null, .null, .null, .null, .null, .null, .null] .null := V57
  obtain ⟨T71, h71, X71, e71, W71, st71⟩ := putF X57 hx hZ hown (host := "") (Or.inl (wd hw 123 rfl)) Via.refl e57 F67 F65 (Or.inl (wd hw 124 rfl)) (wd hw 22 rfl) (ty := .int) (by decide) rfl rfl (g := (mkF m 71 #[.val (.ref la), .val (.ref lb), .val (.ref cx_1), .val (.int (1 : Int32)), .val (.ref ed_42), .val (.int (0 : Int32))] [(.int (1 : Int32)), (.ref la)])) rfl rfl (hb hby d33_71)
  have Fw71 : Fld Z h71 la "java/util/ArrayList" "size" "I" (.int (1 : Int32)) := F67.same W71
  have F72 := F58.wr W71
  have F73 := F59.other W71 hnd
  have F74 := F60.wr W71
  have F75 := F61.wr W71
  have F76 := F62.wr W71
  have F77 := F63.wr W71
  have F78 := F64.other W71 (Ne.symm ne3)
  have F79 := F65.wr W71
  have F80 := F66.other W71 (Or.inr (slot_ne (Or.inl (wd hw 41 rfl)) (Or.inl (wd hw 124 rfl)) (by decide) (t := .int) (t' := .int) (by decide) (by decide)))
  have F82 := F68.other W71 (Or.inr (slot_ne (Or.inl (wd hw 44 rfl)) (Or.inl (wd hw 124 rfl)) (by decide) (t := (.array (.object "java/lang/Object"))) (t' := .int) (by decide) (by decide)))
  have F83 := F70.wr W71
  have F84 := Vc57.other W71 (Ne.symm ne44)
  have N71 := Fr.snoc X71 N57 g_la
  have K71 : Keep h0 h71 [la] := K57.wr W71 (Or.inl (List.mem_of_getElem? (i := 0) rfl))
  have Zs71 : n0 ≤ h71.size := by rw [W71.size]; exact Zs57
  have k85 : ∀ t, Steps p.tables e below (T71.setTop (mkF m 75 #[.val (.ref la), .val (.ref lb), .val (.ref cx_1), .val (.int (1 : Int32)), .val (.ref ed_42), .val (.int (0 : Int32))] [(.int (1 : Int32))])) t → Steps p.tables e below (s₁.setTop (entryFrame m #[(.ref la), (.ref lb)] 6)) t := by
    intro t k
    refine pre0 t ?_
    refine XS.aloadN X0.here hx rfl (hb hby d33_0) rfl rfl ?_
    refine st1.trans ?_
    refine XS.astoreN X1.here hx rfl (hb hby d33_6) rfl rfl (l' := #[.val (.ref la), .val (.ref lb), .val (.ref cx_1), .unset, .unset, .unset]) rfl ?_
    refine XS.aloadN X1.here hx rfl (hb hby d33_7) rfl rfl ?_
    refine XS.dup X1.here hx rfl (hb hby d33_8) rfl rfl ?_
    refine st21 _ ?_
    refine XS.iconst X21.here hx rfl (hb hby d33_12) ?_
    refine XS.iadd X21.here hx rfl (hb hby d33_13) rfl ?_
    refine st22 _ ?_
    refine XS.aloadN X22.here hx rfl (hb hby d33_17) rfl rfl ?_
    refine X22.arraylength hx (by rw [e22]; exact Ar38.1) (State.isArrayOf_alike hZ.alike Ar38.2.1) (g := (mkF m 18 #[.val (.ref la), .val (.ref lb), .val (.ref cx_1), .unset, .unset, .unset] [(.ref cx_1)])) rfl rfl (hb hby d33_18) _ ?_
    rw [len_of Sz38 Nn38]
    refine XS.istoreN X22.here hx rfl (hb hby d33_19) rfl (l' := #[.val (.ref la), .val (.ref lb), .val (.ref cx_1), .val (.int (1 : Int32)), .unset, .unset]) rfl ?_
    refine XS.iloadN X22.here hx rfl (hb hby d33_20) rfl ?_
    show Steps p.tables e below (T22.setTop (mkF m 21 #[.val (.ref la), .val (.ref lb), .val (.ref cx_1), .val (.int (1 : Int32)), .unset, .unset] [(.int (1 : Int32))])) _
    refine XS.ifYes X22.here hx rfl (pc0 := 21) (pc' := 26) rfl (hb hby d33_21) rfl ((if0 _ _).trans (feq (by decide : ¬ ((1 : Int32) = (0 : Int32)))).2) (by decide) (by decide) ?_
    refine XS.iloadN X22.here hx rfl (hb hby d33_26) rfl ?_
    refine XS.aloadN X22.here hx rfl (hb hby d33_27) rfl rfl ?_
    refine st39 _ ?_
    refine XS.dup X39.here hx rfl (hb hby d33_31) rfl rfl ?_
    refine XS.astore X39.here hx rfl (hb hby d33_32) rfl rfl (l' := #[.val (.ref la), .val (.ref lb), .val (.ref cx_1), .val (.int (1 : Int32)), .val (.ref u_DEFAULTCAPACITY_EMPTY_ELEMENTDATA), .unset]) rfl ?_
    refine X39.arraylength hx (by rw [e39]; exact Ar40.1) (State.isArrayOf_alike hZ.alike Ar40.2.1) (g := (mkF m 34 #[.val (.ref la), .val (.ref lb), .val (.ref cx_1), .val (.int (1 : Int32)), .val (.ref u_DEFAULTCAPACITY_EMPTY_ELEMENTDATA), .unset] [(.ref u_DEFAULTCAPACITY_EMPTY_ELEMENTDATA), (.int (1 : Int32))])) rfl rfl (hb hby d33_34) _ ?_
    rw [len_of Sz40 Nn40]
    refine XS.aloadN X39.here hx rfl (hb hby d33_35) rfl rfl ?_
    refine st41 _ ?_
    refine XS.dup X41.here hx rfl (hb hby d33_39) rfl rfl ?_
    refine XS.istore X41.here hx rfl (hb hby d33_40) rfl (l' := #[.val (.ref la), .val (.ref lb), .val (.ref cx_1), .val (.int (1 : Int32)), .val (.ref u_DEFAULTCAPACITY_EMPTY_ELEMENTDATA), .val (.int (0 : Int32))]) rfl ?_
    refine XS.isub X41.here hx rfl (hb hby d33_42) rfl ?_
    refine XS.icmpNo X41.here hx rfl (hb hby d33_43) rfl (tlt (by decide : (0 : Int32) < (1 : Int32))).2.2.2 ?_
    refine XS.aloadN X41.here hx rfl (hb hby d33_46) rfl rfl ?_
    show Steps p.tables e below (T41.setTop (mkF m 47 #[.val (.ref la), .val (.ref lb), .val (.ref cx_1), .val (.int (1 : Int32)), .val (.ref u_DEFAULTCAPACITY_EMPTY_ELEMENTDATA), .val (.int (0 : Int32))] [(.ref la)])) _
    refine XS.iload X41.here hx rfl (hb hby d33_47) rfl ?_
    refine XS.iloadN X41.here hx rfl (hb hby d33_49) rfl ?_
    refine XS.iadd X41.here hx rfl (hb hby d33_50) rfl ?_
    refine st42.trans ?_
    refine XS.astore X42.here hx rfl (hb hby d33_54) rfl rfl (l' := #[.val (.ref la), .val (.ref lb), .val (.ref cx_1), .val (.int (1 : Int32)), .val (.ref ed_42), .val (.int (0 : Int32))]) rfl ?_
    refine XS.aloadN X42.here hx rfl (hb hby d33_56) rfl rfl ?_
    refine XS.iconst X42.here hx rfl (hb hby d33_57) ?_
    refine XS.aload X42.here hx rfl (hb hby d33_58) rfl rfl ?_
    refine XS.iload X42.here hx rfl (hb hby d33_60) rfl ?_
    refine XS.iloadN X42.here hx rfl (hb hby d33_62) rfl ?_
    refine st57 _ ?_
    refine XS.aloadN X57.here hx rfl (hb hby d33_66) rfl rfl ?_
    refine XS.iload X57.here hx rfl (hb hby d33_67) rfl ?_
    refine XS.iloadN X57.here hx rfl (hb hby d33_69) rfl ?_
    show Steps p.tables e below (T57.setTop (mkF m 70 #[.val (.ref la), .val (.ref lb), .val (.ref cx_1), .val (.int (1 : Int32)), .val (.ref ed_42), .val (.int (0 : Int32))] [(.int (1 : Int32)), (.int (0 : Int32)), (.ref la)])) _
    refine XS.iadd X57.here hx rfl (hb hby d33_70) rfl ?_
    refine st71 _ ?_
    refine XS.iconst X71.here hx rfl (hb hby d33_74) ?_
    exact k
  obtain ⟨fs, hr, hrun, hended, hW, hsame⟩ := X71.leave (v := some (.int (1 : Int32))) (fun h => by rw [Bd.returns] at h; cases h)
  refine ⟨_, _, k85 _ ?_, hrun, hended, _, _, rfl, ?_, ⟨_, rfl⟩, hW, hsame.mono (by decide) (by decide)⟩
  · exact retN X71 hx (t := .boolean) Bd.returns (by simp) (hb hby d33_75) hr
  · show Q33 Z la lb ma mb eb kb bx0 u_DEFAULTCAPACITY_EMPTY_ELEMENTDATA cl_u_DEFAULTCAPACITY_EMPTY_ELEMENTDATA mr h0 n0 _ T71.heap _
    rw [e71]
    exact ⟨rfl, N71, K71, F79, Fw71⟩
theorem d34_0 : decode prog_1_method_5_code 0 = .ok (.aload_n 0, 1) := by decide +kernel
theorem d34_1 : decode prog_1_method_5_code 1 = .ok (.dup, 1) := by decide +kernel
theorem d34_2 : decode prog_1_method_5_code 2 = .ok (.getfield 40, 3) := by decide +kernel
theorem d34_5 : decode prog_1_method_5_code 5 = .ok (.aload_n 1, 1) := by decide +kernel
theorem d34_6 : decode prog_1_method_5_code 6 = .ok (.getfield 40, 3) := by decide +kernel
theorem d34_9 : decode prog_1_method_5_code 9 = .ok (.iadd, 1) := by decide +kernel
theorem d34_10 : decode prog_1_method_5_code 10 = .ok (.putfield 40, 3) := by decide +kernel
theorem d34_13 : decode prog_1_method_5_code 13 = .ok (.aload_n 0, 1) := by decide +kernel
theorem d34_14 : decode prog_1_method_5_code 14 = .ok (.dup, 1) := by decide +kernel
theorem d34_15 : decode prog_1_method_5_code 15 = .ok (.getfield 44, 3) := by decide +kernel
theorem d34_18 : decode prog_1_method_5_code 18 = .ok (.aload_n 1, 1) := by decide +kernel
theorem d34_19 : decode prog_1_method_5_code 19 = .ok (.getfield 44, 3) := by decide +kernel
theorem d34_22 : decode prog_1_method_5_code 22 = .ok (.iadd, 1) := by decide +kernel
theorem d34_23 : decode prog_1_method_5_code 23 = .ok (.putfield 44, 3) := by decide +kernel
theorem d34_26 : decode prog_1_method_5_code 26 = .ok (.aload_n 0, 1) := by decide +kernel
theorem d34_27 : decode prog_1_method_5_code 27 = .ok (.getfield 17, 3) := by decide +kernel
theorem d34_30 : decode prog_1_method_5_code 30 = .ok (.aload_n 1, 1) := by decide +kernel
theorem d34_31 : decode prog_1_method_5_code 31 = .ok (.getfield 17, 3) := by decide +kernel
theorem d34_34 : decode prog_1_method_5_code 34 = .ok (.invokeinterface 58 2, 5) := by decide +kernel
theorem d34_39 : decode prog_1_method_5_code 39 = .ok (.pop, 1) := by decide +kernel
theorem d34_40 : decode prog_1_method_5_code 40 = .ok (.return_, 1) := by decide +kernel
theorem ef_34 (m : MethodId) (ra : Addr) (rb : Addr) : entryFrame m #[(.ref ra), (.ref rb)] 2 = mkF m 0 #[.val (.ref ra), .val (.ref rb)] [] := by first | (simp [entryFrame, mkF, argsToLocals, Value.category]; done) | rfl
def Q34 (Z : State) (ra : Addr) (rb : Addr) (la : Addr) (da : Int32) (na : Int32) (ma : Int32) (lb : Addr) (db : Int32) (nb : Int32) (mb : Int32) (eb : Addr) (kb : ClassId) (bx0 : Addr) (u_DEFAULTCAPACITY_EMPTY_ELEMENTDATA : Addr) (cl_u_DEFAULTCAPACITY_EMPTY_ELEMENTDATA : Cell) (mr : Addr) (h0 : Heap) (n0 : Nat) (v : Option Value) (h : Heap) (L : List Loc) : Prop := v = none ∧ Fr n0 L ∧ Keep h0 h [ra, la] ∧ Exa Z h ra "com/example/batchrake/batchrake/DeleteReport" ∧ Fld Z h ra "com/example/batchrake/batchrake/DeleteReport" "failures" "Ljava/util/List;" (.ref la) ∧ Exa Z h la "java/util/ArrayList" ∧ Fld Z h la "java/util/ArrayList" "size" "I" (.int (1 : Int32))
set_option maxRecDepth 65536 in
set_option maxHeartbeats 40000000 in
theorem rm34 (l : Launch) (Z : State) (a0 : Array Value) (hw : ∀ d ∈ tables_1, d.before a0 Z = true) (ws : List Jvm.Cond) (ra : Addr) (rb : Addr) (la : Addr) (da : Int32) (na : Int32) (ma : Int32) (lb : Addr) (db : Int32) (nb : Int32) (mb : Int32) (eb : Addr) (kb : ClassId) (bx0 : Addr) (u_DEFAULTCAPACITY_EMPTY_ELEMENTDATA : Addr) (cl_u_DEFAULTCAPACITY_EMPTY_ELEMENTDATA : Cell) (mr : Addr) (h0 : Heap) (n0 : Nat) (Z0 : n0 ≤ h0.size) (S_DEFAULTCAPACITY_EMPTY_ELEMENTDATA : Sta Z h0 "java/util/ArrayList" "DEFAULTCAPACITY_EMPTY_ELEMENTDATA" "[Ljava/lang/Object;" (.ref u_DEFAULTCAPACITY_EMPTY_ELEMENTDATA)) (V_u_DEFAULTCAPACITY_EMPTY_ELEMENTDATA : Arv Z h0 u_DEFAULTCAPACITY_EMPTY_ELEMENTDATA cl_u_DEFAULTCAPACITY_EMPTY_ELEMENTDATA.cls (.object "java/lang/Object") (0 : Int32) [] .null) (E_u_DEFAULTCAPACITY_EMPTY_ELEMENTDATA : Exa Z h0 u_DEFAULTCAPACITY_EMPTY_ELEMENTDATA "[Ljava/lang/Object;") (AEr : Exa Z h0 ra "com/example/batchrake/batchrake/DeleteReport") (AFf : Fld Z h0 ra "com/example/batchrake/batchrake/DeleteReport" "failures" "Ljava/util/List;" (.ref la)) (AFd : Fld Z h0 ra "com/example/batchrake/batchrake/DeleteReport" "deleted" "I" (.int da)) (AFn : Fld Z h0 ra "com/example/batchrake/batchrake/DeleteReport" "notFound" "I" (.int na)) (AEl : Exa Z h0 la "java/util/ArrayList") (AFm : Fld Z h0 la "java/util/AbstractList" "modCount" "I" (.int ma)) (AFz : Fld Z h0 la "java/util/ArrayList" "size" "I" (.int (0 : Int32))) (AFe : Fld Z h0 la "java/util/ArrayList" "elementData" "[Ljava/lang/Object;" (.ref u_DEFAULTCAPACITY_EMPTY_ELEMENTDATA)) (BEr : Exa Z h0 rb "com/example/batchrake/batchrake/DeleteReport") (BFf : Fld Z h0 rb "com/example/batchrake/batchrake/DeleteReport" "failures" "Ljava/util/List;" (.ref lb)) (BFd : Fld Z h0 rb "com/example/batchrake/batchrake/DeleteReport" "deleted" "I" (.int db)) (BFn : Fld Z h0 rb "com/example/batchrake/batchrake/DeleteReport" "notFound" "I" (.int nb)) (BEl : Exa Z h0 lb "java/util/ArrayList") (BFm : Fld Z h0 lb "java/util/AbstractList" "modCount" "I" (.int mb)) (BFz : Fld Z h0 lb "java/util/ArrayList" "size" "I" (.int (1 : Int32))) (BFe : Fld Z h0 lb "java/util/ArrayList" "elementData" "[Ljava/lang/Object;" (.ref eb)) (BVe : Arv Z h0 eb kb (.object "java/lang/Object") (10 : Int32) [(.ref bx0), .null, .null, .null, .null, .null, .null, .null, .null, .null] .null) (BEd : Exa Z h0 eb "[Ljava/lang/Object;") (BEbx0 : Exa Z h0 bx0 "com/example/batchrake/batchrake/DeleteReport$Failure") (hmir : Mir Z "[Ljava/lang/Object;" mr) (hnd : u_DEFAULTCAPACITY_EMPTY_ELEMENTDATA ≠ la) (hr_la : la ≠ ra) (hr_rb : rb ≠ ra) (hr_lb : lb ≠ ra) (hr_eb : eb ≠ ra) (hr_u_DEFAULTCAPACITY_EMPTY_ELEMENTDATA : u_DEFAULTCAPACITY_EMPTY_ELEMENTDATA ≠ ra) (g_ra : n0 ≤ ra) (g_la : n0 ≤ la) :
    MetFree l (⟨"com/example/batchrake/batchrake/DeleteReport", "add", "(Lcom/example/batchrake/batchrake/DeleteReport;)V"⟩ : MethodName) (head1 (Jvm.Cond.code (⟨"com/example/batchrake/batchrake/DeleteReport", "add", "(Lcom/example/batchrake/batchrake/DeleteReport;)V"⟩ : MethodName) prog_1_method_5_code 2 none :: ws) ({ frames := 5, cells := 2, slots := 11, locals := 97 } : Room)) (fun a U => a = #[(.ref ra), (.ref rb)] ∧ Z.Warmed39 U.vm ∧ U.heap = h0) (fun _ _ _ _ _ => True) (fun _ U o U' => ∃ v L, o = .returned v ∧ Q34 Z ra rb la da na ma lb db nb mb eb kb bx0 u_DEFAULTCAPACITY_EMPTY_ELEMENTDATA cl_u_DEFAULTCAPACITY_EMPTY_ELEMENTDATA mr h0 n0 v U'.heap L ∧ FrameEnd U o U' L ({ frames := 5, cells := 2, slots := 11, locals := 97 } : Room).cells ({ frames := 5, cells := 2, slots := 11, locals := 97 } : Room).slots) := by
  refine MetFree.of_bodySF (plainFor_of_name pn_3) hisR ?_
  intro p e s m args below meth c s₁ Bd hml0 hP hK
  obtain ⟨rfl, hZ, hh⟩ := hP
  have hx := Bd.exec
  have hby := Bd.bytes
  have hml : c.maxLocals = 2 := hml0
  have hown : s.vm.findClass "com/example/batchrake/batchrake/DeleteReport" = some m.cls := findClass_of_methodNamed Bd.named
  have hnm := (name_of_methodNamed Bd.named Bd.method).1
  have X0 : Stand p l e ({ frames := 5, cells := 2, slots := 11, locals := 97 } : Room) s m #[(.ref ra), (.ref rb)] below meth c s₁ [] 0 0 := Stand.of_body Bd
  have e0 : s₁.heap = h0 := by rw [← hh, Bd.state]; rfl
  have N0 := Fr.nil n0
  have pre0 : ∀ t, Steps p.tables e below (s₁.setTop (mkF m 0 #[.val (.ref ra), .val (.ref rb)] [])) t → Steps p.tables e below (s₁.setTop (entryFrame m #[(.ref ra), (.ref rb)] 2)) t := fun t k => castTop (ef_34 m ra rb) k
  obtain ⟨T1, X1, e1, st1⟩ := getF X0 hx hZ hown (host := "") (Or.inl (wd hw 97 rfl)) Via.refl e0 AFd (g := (mkF m 2 #[.val (.ref ra), .val (.ref rb)] [(.ref ra), (.ref ra)])) rfl rfl (hb hby d34_2)
  obtain ⟨T2, X2, e2, st2⟩ := getF X1 hx hZ hown (host := "") (Or.inl (wd hw 97 rfl)) Via.refl e1 BFd (g := (mkF m 6 #[.val (.ref ra), .val (.ref rb)] [(.ref rb), (.int da), (.ref ra)])) rfl rfl (hb hby d34_6)
  obtain ⟨T3, h3, X3, e3, W3, st3⟩ := putF X2 hx hZ hown (host := "") (Or.inl (wd hw 97 rfl)) Via.refl e2 AFd AEr (Or.inl (wd hw 98 rfl)) (wd hw 2 rfl) (ty := .int) (by decide) rfl rfl (g := (mkF m 10 #[.val (.ref ra), .val (.ref rb)] [(.int (da + db)), (.ref ra)])) rfl rfl (hb hby d34_10)
  have Fw3 : Fld Z h3 ra "com/example/batchrake/batchrake/DeleteReport" "deleted" "I" (.int (da + db)) := AFd.same W3
  have F4 := S_DEFAULTCAPACITY_EMPTY_ELEMENTDATA.wr W3
  have F5 := V_u_DEFAULTCAPACITY_EMPTY_ELEMENTDATA.other W3 hr_u_DEFAULTCAPACITY_EMPTY_ELEMENTDATA
  have F6 := E_u_DEFAULTCAPACITY_EMPTY_ELEMENTDATA.wr W3
  have F7 := AEr.wr W3
  have F8 := AFf.other W3 (Or.inr (slot_ne (Or.inr (wd hw 46 rfl)) (Or.inl (wd hw 98 rfl)) (by decide) (t := (.object "java/util/List")) (t' := .int) (by decide) (by decide)))
  have F10 := AFn.other W3 (Or.inr (slot_ne (Or.inl (wd hw 155 rfl)) (Or.inl (wd hw 98 rfl)) (by decide) (t := .int) (t' := .int) (by decide) (by decide)))
  have F11 := AEl.wr W3
  have F12 := AFm.other W3 (Or.inl hr_la)
  have F13 := AFz.other W3 (Or.inl hr_la)
  have F14 := AFe.other W3 (Or.inl hr_la)
  have F15 := BEr.wr W3
  have F16 := BFf.other W3 (Or.inl hr_rb)
  have F17 := BFd.other W3 (Or.inl hr_rb)
  have F18 := BFn.other W3 (Or.inl hr_rb)
  have F19 := BEl.wr W3
  have F20 := BFm.other W3 (Or.inl hr_lb)
  have F21 := BFz.other W3 (Or.inl hr_lb)
  have F22 := BFe.other W3 (Or.inl hr_lb)
  have F23 := BVe.other W3 hr_eb
  have F24 := BEd.wr W3
  have F25 := BEbx0.wr W3
  have N3 := Fr.snoc X3 N0 g_ra
  have K3 : Keep h0 h3 [ra, la] := (Keep.refl h0 [ra, la]).wr W3 (Or.inl (List.mem_of_getElem? (i := 0) rfl))
  have Zs3 : n0 ≤ h3.size := by rw [W3.size]; exact Z0
  obtain ⟨T26, X26, e26, st26⟩ := getF X3 hx hZ hown (host := "") (Or.inl (wd hw 154 rfl)) Via.refl e3 F10 (g := (mkF m 15 #[.val (.ref ra), .val (.ref rb)] [(.ref ra), (.ref ra)])) rfl rfl (hb hby d34_15)
  obtain ⟨T27, X27, e27, st27⟩ := getF X26 hx hZ hown (host := "") (Or.inl (wd hw 154 rfl)) Via.refl e26 F18 (g := (mkF m 19 #[.val (.ref ra), .val (.ref rb)] [(.ref rb), (.int na), (.ref ra)])) rfl rfl (hb hby d34_19)
  obtain ⟨T28, h28, X28, e28, W28, st28⟩ := putF X27 hx hZ hown (host := "") (Or.inl (wd hw 154 rfl)) Via.refl e27 F10 F7 (Or.inl (wd hw 155 rfl)) (wd hw 2 rfl) (ty := .int) (by decide) rfl rfl (g := (mkF m 23 #[.val (.ref ra), .val (.ref rb)] [(.int (na + nb)), (.ref ra)])) rfl rfl (hb hby d34_23)
  have Fw28 : Fld Z h28 ra "com/example/batchrake/batchrake/DeleteReport" "notFound" "I" (.int (na + nb)) := F10.same W28
  have F29 := F4.wr W28
  have F30 := F5.other W28 hr_u_DEFAULTCAPACITY_EMPTY_ELEMENTDATA
  have F31 := F6.wr W28
  have F32 := F7.wr W28
  have F33 := F8.other W28 (Or.inr (slot_ne (Or.inr (wd hw 46 rfl)) (Or.inl (wd hw 155 rfl)) (by decide) (t := (.object "java/util/List")) (t' := .int) (by decide) (by decide)))
  have F35 := F11.wr W28
  have F36 := F12.other W28 (Or.inl hr_la)
  have F37 := F13.other W28 (Or.inl hr_la)
  have F38 := F14.other W28 (Or.inl hr_la)
  have F39 := F15.wr W28
  have F40 := F16.other W28 (Or.inl hr_rb)
  have F41 := F17.other W28 (Or.inl hr_rb)
  have F42 := F18.other W28 (Or.inl hr_rb)
  have F43 := F19.wr W28
  have F44 := F20.other W28 (Or.inl hr_lb)
  have F45 := F21.other W28 (Or.inl hr_lb)
  have F46 := F22.other W28 (Or.inl hr_lb)
  have F47 := F23.other W28 hr_eb
  have F48 := F24.wr W28
  have F49 := F25.wr W28
  have F50 := Fw3.other W28 (Or.inr (slot_ne (Or.inl (wd hw 98 rfl)) (Or.inl (wd hw 155 rfl)) (by decide) (t := .int) (t' := .int) (by decide) (by decide)))
  have N28 := Fr.snoc X28 N3 g_ra
  have K28 : Keep h0 h28 [ra, la] := K3.wr W28 (Or.inl (List.mem_of_getElem? (i := 0) rfl))
  have Zs28 : n0 ≤ h28.size := by rw [W28.size]; exact Zs3
  obtain ⟨T51, X51, e51, st51⟩ := getF X28 hx hZ hown (host := "") (Or.inl (wd hw 45 rfl)) Via.refl e28 F33 (g := (mkF m 27 #[.val (.ref ra), .val (.ref rb)] [(.ref ra)])) rfl rfl (hb hby d34_27)
  obtain ⟨T52, X52, e52, st52⟩ := getF X51 hx hZ hown (host := "") (Or.inl (wd hw 45 rfl)) Via.refl e51 F40 (g := (mkF m 31 #[.val (.ref ra), .val (.ref rb)] [(.ref rb), (.ref la)])) rfl rfl (hb hby d34_31)
  obtain ⟨cq53, kq53, q53a, q53b, q53c⟩ := isOf hZ e52 F35
  obtain ⟨_, _, ⟨T53, L53, k53, n53⟩, -, X53, ⟨Lc53, hQ53, l53, y53, z53⟩, st53⟩ := X52.interfaceBack hx (xi := (⟨"java/util/List", "addAll", "(Ljava/util/Collection;)Z"⟩ : MethodName)) (y := (⟨"java/util/ArrayList", "addAll", "(Ljava/util/Collection;)Z"⟩ : MethodName)) hown (mvT hZ (wd hw 156 rfl)) (mvT hZ (wd hw 157 rfl)) (mvT hZ (wd hw 158 rfl)) (mvT hZ (wd hw 159 rfl)) (mvT hZ (wd hw 160 rfl)) (mvT hZ (wd hw 161 rfl)) (mvT hZ (wd hw 162 rfl)) (mvT hZ (wd hw 119 rfl)) (by decide) (backOf (W := 0) (rm33 l Z a0 hw [] la lb ma mb eb kb bx0 u_DEFAULTCAPACITY_EMPTY_ELEMENTDATA cl_u_DEFAULTCAPACITY_EMPTY_ELEMENTDATA mr h28 n0 Zs28 F29 F30 F31 F35 F36 F37 F38 F43 F44 F45 F46 F47 F48 F49 hmir hnd g_la) hZ (wd hw 163 rfl) (wd hw 23 rfl) (by decide) (by decide)) q53a q53b q53c (g := (mkF m 34 #[.val (.ref ra), .val (.ref rb)] [(.ref lb), (.ref la)])) rfl (by rw [hml]; rfl) (Steps.refl _) (argsL := [(.ref lb)]) (rest := []) (lenOf pd_12 rfl) rfl (by show 2 * 0 + _ ≤ _; exact Nat.le_of_eq rfl) (hb hby d34_34) (fun _ _ => ⟨rfl, e52, (by decide : 0 + 2 ≤ _), (by decide : 0 + 11 ≤ _)⟩)
  dsimp only [Pt.U, Pt.locs, Pt.cells, Pt.slots] at X53 l53 y53 z53 st53 hQ53
  rw [l53, y53, z53] at X53
  obtain ⟨rfl, N53q, Kc53, G53_0, G53_1⟩ := hQ53
  have Zs53 : n0 ≤ T53.heap.size := Nat.le_trans Zs28 Kc53.1
  have K53 : Keep h0 T53.heap [ra, la] := K28.trans Kc53 (allS (Or.inl (List.mem_of_getElem? (i := 1) rfl)) all0)
  have F54 := own_stakeep F29 Kc53 (allS (own_nsE F35) all0)
  have F55 := F30.keep Kc53 (ninS hnd nin0)
  have F56 := F31.keep Kc53
  have F57 := F32.keep Kc53
  have F58 := F33.keep Kc53 (ninS (Ne.symm hr_la) nin0)
  have F61 := F39.keep Kc53
  have F65 := F43.keep Kc53
  have F70 := F48.keep Kc53
  have F71 := F49.keep Kc53
  have F72 := F50.keep Kc53 (ninS (Ne.symm hr_la) nin0)
  have F73 := Fw28.keep Kc53 (ninS (Ne.symm hr_la) nin0)
  have N53 := Fr.app N28 N53q
  have k74 : ∀ t, Steps p.tables e below (T53.setTop (mkF m 40 #[.val (.ref ra), .val (.ref rb)] [])) t → Steps p.tables e below (s₁.setTop (entryFrame m #[(.ref ra), (.ref rb)] 2)) t := by
    intro t k
    refine pre0 t ?_
    refine XS.aloadN X0.here hx rfl (hb hby d34_0) rfl rfl ?_
    refine XS.dup X0.here hx rfl (hb hby d34_1) rfl rfl ?_
    refine st1 _ ?_
    refine XS.aloadN X1.here hx rfl (hb hby d34_5) rfl rfl ?_
    refine st2 _ ?_
    refine XS.iadd X2.here hx rfl (hb hby d34_9) rfl ?_
    refine st3 _ ?_
    refine XS.aloadN X3.here hx rfl (hb hby d34_13) rfl rfl ?_
    refine XS.dup X3.here hx rfl (hb hby d34_14) rfl rfl ?_
    refine st26 _ ?_
    refine XS.aloadN X26.here hx rfl (hb hby d34_18) rfl rfl ?_
    refine st27 _ ?_
    refine XS.iadd X27.here hx rfl (hb hby d34_22) rfl ?_
    show Steps p.tables e below (T27.setTop (mkF m 23 #[.val (.ref ra), .val (.ref rb)] [(.int (na + nb)), (.ref ra)])) _
    refine st28 _ ?_
    refine XS.aloadN X28.here hx rfl (hb hby d34_26) rfl rfl ?_
    refine st51 _ ?_
    refine XS.aloadN X51.here hx rfl (hb hby d34_30) rfl rfl ?_
    refine st52 _ ?_
    refine st53.trans ?_
    refine XS.pop X53.here hx rfl (hb hby d34_39) rfl rfl ?_
    exact k
  obtain ⟨fs, hr, hrun, hended, hW, hsame⟩ := X53.leave (v := none) (fun _ => rfl)
  refine ⟨_, _, k74 _ ?_, hrun, hended, _, _, rfl, ?_, ⟨_, rfl⟩, hW, hsame.mono (by decide) (by decide)⟩
  · exact X53.returnOut hx Bd.returns (hb hby d34_40) hr
  · show Q34 Z ra rb la da na ma lb db nb mb eb kb bx0 u_DEFAULTCAPACITY_EMPTY_ELEMENTDATA cl_u_DEFAULTCAPACITY_EMPTY_ELEMENTDATA mr h0 n0 _ T53.heap _
    exact ⟨rfl, N53, K53, F57, F58, G53_0, G53_1⟩
theorem d35_0 : decode jdk_38_method_41_code 0 = .ok (.aload_n 1, 1) := by decide +kernel
theorem d35_1 : decode jdk_38_method_41_code 1 = .ok (.invokeinterface 42 1, 5) := by decide +kernel
theorem d35_6 : decode jdk_38_method_41_code 6 = .ok (.astore_n 2, 1) := by decide +kernel
theorem d35_7 : decode jdk_38_method_41_code 7 = .ok (.aload_n 0, 1) := by decide +kernel
theorem d35_8 : decode jdk_38_method_41_code 8 = .ok (.dup, 1) := by decide +kernel
theorem d35_9 : decode jdk_38_method_41_code 9 = .ok (.getfield 63, 3) := by decide +kernel
theorem d35_12 : decode jdk_38_method_41_code 12 = .ok (.iconst 1, 1) := by decide +kernel
theorem d35_13 : decode jdk_38_method_41_code 13 = .ok (.iadd, 1) := by decide +kernel
theorem d35_14 : decode jdk_38_method_41_code 14 = .ok (.putfield 63, 3) := by decide +kernel
theorem d35_17 : decode jdk_38_method_41_code 17 = .ok (.aload_n 2, 1) := by decide +kernel
theorem d35_18 : decode jdk_38_method_41_code 18 = .ok (.arraylength, 1) := by decide +kernel
theorem d35_19 : decode jdk_38_method_41_code 19 = .ok (.istore_n 3, 1) := by decide +kernel
theorem d35_20 : decode jdk_38_method_41_code 20 = .ok (.iload_n 3, 1) := by decide +kernel
theorem d35_21 : decode jdk_38_method_41_code 21 = .ok (.ifCond .ne 5, 3) := by decide +kernel
theorem d35_24 : decode jdk_38_method_41_code 24 = .ok (.iconst 0, 1) := by decide +kernel
theorem d35_25 : decode jdk_38_method_41_code 25 = .ok (.ireturn, 1) := by decide +kernel
theorem ef_35 (m : MethodId) (la : Addr) (lb : Addr) : entryFrame m #[(.ref la), (.ref lb)] 6 = mkF m 0 #[.val (.ref la), .val (.ref lb), .unset, .unset, .unset, .unset] [] := by first | (simp [entryFrame, mkF, argsToLocals, Value.category]; done) | rfl
def Q35 (Z : State) (la : Addr) (lb : Addr) (ma : Int32) (ea : Addr) (ka : ClassId) (ks : Int32) (va : List Value) (mb : Int32) (u_DEFAULTCAPACITY_EMPTY_ELEMENTDATA : Addr) (cl_u_DEFAULTCAPACITY_EMPTY_ELEMENTDATA : Cell) (mr : Addr) (h0 : Heap) (n0 : Nat) (v : Option Value) (h : Heap) (L : List Loc) : Prop := v = some (.int (0 : Int32)) ∧ Fr n0 L ∧ Keep h0 h [la] ∧ Exa Z h la "java/util/ArrayList" ∧ Fld Z h la "java/util/ArrayList" "size" "I" (.int ks)
set_option maxRecDepth 65536 in
set_option maxHeartbeats 40000000 in
theorem rm35 (l : Launch) (Z : State) (a0 : Array Value) (hw : ∀ d ∈ tables_1, d.before a0 Z = true) (ws : List Jvm.Cond) (la : Addr) (lb : Addr) (ma : Int32) (ea : Addr) (ka : ClassId) (ks : Int32) (va : List Value) (mb : Int32) (u_DEFAULTCAPACITY_EMPTY_ELEMENTDATA : Addr) (cl_u_DEFAULTCAPACITY_EMPTY_ELEMENTDATA : Cell) (mr : Addr) (h0 : Heap) (n0 : Nat) (Z0 : n0 ≤ h0.size) (S_DEFAULTCAPACITY_EMPTY_ELEMENTDATA : Sta Z h0 "java/util/ArrayList" "DEFAULTCAPACITY_EMPTY_ELEMENTDATA" "[Ljava/lang/Object;" (.ref u_DEFAULTCAPACITY_EMPTY_ELEMENTDATA)) (V_u_DEFAULTCAPACITY_EMPTY_ELEMENTDATA : Arv Z h0 u_DEFAULTCAPACITY_EMPTY_ELEMENTDATA cl_u_DEFAULTCAPACITY_EMPTY_ELEMENTDATA.cls (.object "java/lang/Object") (0 : Int32) [] .null) (E_u_DEFAULTCAPACITY_EMPTY_ELEMENTDATA : Exa Z h0 u_DEFAULTCAPACITY_EMPTY_ELEMENTDATA "[Ljava/lang/Object;") (AEl : Exa Z h0 la "java/util/ArrayList") (AFm : Fld Z h0 la "java/util/AbstractList" "modCount" "I" (.int ma)) (AFz : Fld Z h0 la "java/util/ArrayList" "size" "I" (.int ks)) (AFe : Fld Z h0 la "java/util/ArrayList" "elementData" "[Ljava/lang/Object;" (.ref ea)) (AVe : Arv Z h0 ea ka (.object "java/lang/Object") (10 : Int32) va .null) (AEd : Exa Z h0 ea "[Ljava/lang/Object;") (BEl : Exa Z h0 lb "java/util/ArrayList") (BFm : Fld Z h0 lb "java/util/AbstractList" "modCount" "I" (.int mb)) (BFz : Fld Z h0 lb "java/util/ArrayList" "size" "I" (.int (0 : Int32))) (BFe : Fld Z h0 lb "java/util/ArrayList" "elementData" "[Ljava/lang/Object;" (.ref u_DEFAULTCAPACITY_EMPTY_ELEMENTDATA)) (hmir : Mir Z "[Ljava/lang/Object;" mr) (hnd : u_DEFAULTCAPACITY_EMPTY_ELEMENTDATA ≠ la) (hovA : Ovr Z ka "java/lang/Object") (hne : ea ≠ la) (hks : ks = (1 : Int32) ∨ ks = (2 : Int32)) (hva : va.length = 10) (g_la : n0 ≤ la) :
    MetFree l (⟨"java/util/ArrayList", "addAll", "(Ljava/util/Collection;)Z"⟩ : MethodName) (head1 (Jvm.Cond.code (⟨"java/util/ArrayList", "addAll", "(Ljava/util/Collection;)Z"⟩ : MethodName) jdk_38_method_41_code 6 (some .boolean) :: ws) ({ frames := 4, cells := 1, slots := 0, locals := 80 } : Room)) (fun a U => a = #[(.ref la), (.ref lb)] ∧ Z.Warmed39 U.vm ∧ U.heap = h0) (fun _ _ _ _ _ => True) (fun _ U o U' => ∃ v L, o = .returned v ∧ Q35 Z la lb ma ea ka ks va mb u_DEFAULTCAPACITY_EMPTY_ELEMENTDATA cl_u_DEFAULTCAPACITY_EMPTY_ELEMENTDATA mr h0 n0 v U'.heap L ∧ FrameEnd U o U' L ({ frames := 4, cells := 1, slots := 0, locals := 80 } : Room).cells ({ frames := 4, cells := 1, slots := 0, locals := 80 } : Room).slots) := by
  refine MetFree.of_bodySF (plainFor_of_name pn_2) hisR ?_
  intro p e s m args below meth c s₁ Bd hml0 hP hK
  obtain ⟨rfl, hZ, hh⟩ := hP
  have hx := Bd.exec
  have hby := Bd.bytes
  have hml : c.maxLocals = 6 := hml0
  have hown : s.vm.findClass "java/util/ArrayList" = some m.cls := findClass_of_methodNamed Bd.named
  have hnm := (name_of_methodNamed Bd.named Bd.method).1
  have X0 : Stand p l e ({ frames := 4, cells := 1, slots := 0, locals := 80 } : Room) s m #[(.ref la), (.ref lb)] below meth c s₁ [] 0 0 := Stand.of_body Bd
  have e0 : s₁.heap = h0 := by rw [← hh, Bd.state]; rfl
  have N0 := Fr.nil n0
  have pre0 : ∀ t, Steps p.tables e below (s₁.setTop (mkF m 0 #[.val (.ref la), .val (.ref lb), .unset, .unset, .unset, .unset] [])) t → Steps p.tables e below (s₁.setTop (entryFrame m #[(.ref la), (.ref lb)] 6)) t := fun t k => castTop (ef_35 m la lb) k
  obtain ⟨cq1, kq1, q1a, q1b, q1c⟩ := isOf hZ e0 BEl
  obtain ⟨_, _, ⟨T1, L1, k1, n1⟩, -, X1, ⟨Lc1, hQ1, l1, y1, z1⟩, st1⟩ := X0.interfaceBack hx (xi := (⟨"java/util/Collection", "toArray", "()[Ljava/lang/Object;"⟩ : MethodName)) (y := (⟨"java/util/ArrayList", "toArray", "()[Ljava/lang/Object;"⟩ : MethodName)) hown (mvT hZ (wd hw 164 rfl)) (mvT hZ (wd hw 165 rfl)) (mvT hZ (wd hw 166 rfl)) (mvT hZ (wd hw 167 rfl)) (mvT hZ (wd hw 168 rfl)) (mvT hZ (wd hw 169 rfl)) (mvT hZ (wd hw 170 rfl)) (mvT hZ (wd hw 171 rfl)) (by decide) (backOf (W := 0) (rm27 l Z a0 hw [] lb mr u_DEFAULTCAPACITY_EMPTY_ELEMENTDATA cl_u_DEFAULTCAPACITY_EMPTY_ELEMENTDATA h0 n0 Z0 BEl BFz BFe V_u_DEFAULTCAPACITY_EMPTY_ELEMENTDATA E_u_DEFAULTCAPACITY_EMPTY_ELEMENTDATA hmir) hZ (wd hw 172 rfl) (wd hw 23 rfl) (by decide) (by decide)) q1a q1b q1c (g := (mkF m 1 #[.val (.ref la), .val (.ref lb), .unset, .unset, .unset, .unset] [(.ref lb)])) rfl (by rw [hml]; rfl) (Steps.refl _) (argsL := []) (rest := []) (lenOf pd_8 rfl) rfl (by show 2 * 0 + _ ≤ _; exact Nat.le_of_eq rfl) (hb hby d35_1) (fun _ _ => ⟨rfl, e0, (by decide : 0 + 1 ≤ _), (by decide : 0 + 0 ≤ _)⟩)
  dsimp only [Pt.U, Pt.locs, Pt.cells, Pt.slots] at X1 l1 y1 z1 st1 hQ1
  rw [l1, y1, z1] at X1
  obtain ⟨cx_1, kc_1, rfl, N1q, Kc1, ggcx_1, szcx_1, G1_0⟩ := hQ1
  have ne2 : u_DEFAULTCAPACITY_EMPTY_ELEMENTDATA ≠ cx_1 := Nat.ne_of_lt (Nat.lt_of_lt_of_le V_u_DEFAULTCAPACITY_EMPTY_ELEMENTDATA.lt szcx_1)
  have ne3 : la ≠ cx_1 := Nat.ne_of_lt (Nat.lt_of_lt_of_le AEl.lt szcx_1)
  have ne4 : ea ≠ cx_1 := Nat.ne_of_lt (Nat.lt_of_lt_of_le AVe.lt szcx_1)
  have ne5 : lb ≠ cx_1 := Nat.ne_of_lt (Nat.lt_of_lt_of_le BEl.lt szcx_1)
  have szzcx_1 : h0.size ≤ cx_1 := Nat.le_trans (Keep.refl h0 [la]).1 szcx_1
  have Zs1 : n0 ≤ T1.heap.size := Nat.le_trans Z0 Kc1.1
  have K1 : Keep h0 T1.heap [la] := (Keep.refl h0 [la]).trans Kc1 all0
  have F6 := own_stakeep S_DEFAULTCAPACITY_EMPTY_ELEMENTDATA Kc1 all0
  have F7 := V_u_DEFAULTCAPACITY_EMPTY_ELEMENTDATA.keep Kc1 nin0
  have F8 := E_u_DEFAULTCAPACITY_EMPTY_ELEMENTDATA.keep Kc1
  have F9 := AEl.keep Kc1
  have F10 := AFm.keep Kc1 nin0
  have F11 := AFz.keep Kc1 nin0
  have F12 := AFe.keep Kc1 nin0
  have F13 := AVe.keep Kc1 nin0
  have F14 := AEd.keep Kc1
  have F15 := BEl.keep Kc1
  have F16 := BFm.keep Kc1 nin0
  have F17 := BFz.keep Kc1 nin0
  have F18 := BFe.keep Kc1 nin0
  have N1 := Fr.app N0 N1q
  obtain ⟨T19, X19, e19, st19⟩ := getF X1 hx hZ hown (host := "") (Or.inl (wd hw 121 rfl)) (Via.of (wd hw 122 rfl)) rfl F10 (g := (mkF m 9 #[.val (.ref la), .val (.ref lb), .val (.ref cx_1), .unset, .unset, .unset] [(.ref la), (.ref la)])) rfl rfl (hb hby d35_9)
  obtain ⟨T20, h20, X20, e20, W20, st20⟩ := putF X19 hx hZ hown (host := "") (Or.inl (wd hw 121 rfl)) (Via.of (wd hw 122 rfl)) e19 F10 F9 (Or.inl (wd hw 41 rfl)) (wd hw 22 rfl) (ty := .int) (by decide) rfl rfl (g := (mkF m 14 #[.val (.ref la), .val (.ref lb), .val (.ref cx_1), .unset, .unset, .unset] [(.int (ma + (1 : Int32))), (.ref la)])) rfl rfl (hb hby d35_14)
  have Fw20 : Fld Z h20 la "java/util/AbstractList" "modCount" "I" (.int (ma + (1 : Int32))) := F10.same W20
  have F21 := F6.wr W20
  have F22 := F7.other W20 hnd
  have F23 := F8.wr W20
  have F24 := F9.wr W20
  have F26 := F11.other W20 (Or.inr (slot_ne (Or.inl (wd hw 124 rfl)) (Or.inl (wd hw 41 rfl)) (by decide) (t := .int) (t' := .int) (by decide) (by decide)))
  have F27 := F12.other W20 (Or.inr (slot_ne (Or.inl (wd hw 44 rfl)) (Or.inl (wd hw 41 rfl)) (by decide) (t := (.array (.object "java/lang/Object"))) (t' := .int) (by decide) (by decide)))
  have F28 := F13.other W20 hne
  have F29 := F14.wr W20
  have F30 := F15.wr W20
  have F34 := G1_0.other W20 (Ne.symm ne3)
  have N20 := Fr.snoc X20 N1 g_la
  have K20 : Keep h0 h20 [la] := K1.wr W20 (Or.inl (List.mem_of_getElem? (i := 0) rfl))
  have Zs20 : n0 ≤ h20.size := by rw [W20.size]; exact Zs1
  obtain ⟨cl35, Ar35, qc35, Sz35, Nn35, Hh35, Gg35⟩ := (id F34)
  have k36 : ∀ t, Steps p.tables e below (T20.setTop (mkF m 25 #[.val (.ref la), .val (.ref lb), .val (.ref cx_1), .val (.int (0 : Int32)), .unset, .unset] [(.int (0 : Int32))])) t → Steps p.tables e below (s₁.setTop (entryFrame m #[(.ref la), (.ref lb)] 6)) t := by
    intro t k
    refine pre0 t ?_
    refine XS.aloadN X0.here hx rfl (hb hby d35_0) rfl rfl ?_
    refine st1.trans ?_
    refine XS.astoreN X1.here hx rfl (hb hby d35_6) rfl rfl (l' := #[.val (.ref la), .val (.ref lb), .val (.ref cx_1), .unset, .unset, .unset]) rfl ?_
    refine XS.aloadN X1.here hx rfl (hb hby d35_7) rfl rfl ?_
    refine XS.dup X1.here hx rfl (hb hby d35_8) rfl rfl ?_
    refine st19 _ ?_
    refine XS.iconst X19.here hx rfl (hb hby d35_12) ?_
    refine XS.iadd X19.here hx rfl (hb hby d35_13) rfl ?_
    refine st20 _ ?_
    refine XS.aloadN X20.here hx rfl (hb hby d35_17) rfl rfl ?_
    refine X20.arraylength hx (by rw [e20]; exact Ar35.1) (State.isArrayOf_alike hZ.alike Ar35.2.1) (g := (mkF m 18 #[.val (.ref la), .val (.ref lb), .val (.ref cx_1), .unset, .unset, .unset] [(.ref cx_1)])) rfl rfl (hb hby d35_18) _ ?_
    rw [len_of Sz35 Nn35]
    refine XS.istoreN X20.here hx rfl (hb hby d35_19) rfl (l' := #[.val (.ref la), .val (.ref lb), .val (.ref cx_1), .val (.int (0 : Int32)), .unset, .unset]) rfl ?_
    refine XS.iloadN X20.here hx rfl (hb hby d35_20) rfl ?_
    show Steps p.tables e below (T20.setTop (mkF m 21 #[.val (.ref la), .val (.ref lb), .val (.ref cx_1), .val (.int (0 : Int32)), .unset, .unset] [(.int (0 : Int32))])) _
    refine XS.ifNo X20.here hx rfl (hb hby d35_21) rfl ((if0 _ _).trans (teq (by decide : (0 : Int32) = (0 : Int32))).2) ?_
    refine XS.iconst X20.here hx rfl (hb hby d35_24) ?_
    exact k
  obtain ⟨fs, hr, hrun, hended, hW, hsame⟩ := X20.leave (v := some (.int (0 : Int32))) (fun h => by rw [Bd.returns] at h; cases h)
  refine ⟨_, _, k36 _ ?_, hrun, hended, _, _, rfl, ?_, ⟨_, rfl⟩, hW, hsame.mono (by decide) (by decide)⟩
  · exact retN X20 hx (t := .boolean) Bd.returns (by simp) (hb hby d35_25) hr
  · show Q35 Z la lb ma ea ka ks va mb u_DEFAULTCAPACITY_EMPTY_ELEMENTDATA cl_u_DEFAULTCAPACITY_EMPTY_ELEMENTDATA mr h0 n0 _ T20.heap _
    rw [e20]
    exact ⟨rfl, N20, K20, F24, F26⟩
theorem d36_0 : decode prog_1_method_5_code 0 = .ok (.aload_n 0, 1) := by decide +kernel
theorem d36_1 : decode prog_1_method_5_code 1 = .ok (.dup, 1) := by decide +kernel
theorem d36_2 : decode prog_1_method_5_code 2 = .ok (.getfield 40, 3) := by decide +kernel
theorem d36_5 : decode prog_1_method_5_code 5 = .ok (.aload_n 1, 1) := by decide +kernel
theorem d36_6 : decode prog_1_method_5_code 6 = .ok (.getfield 40, 3) := by decide +kernel
theorem d36_9 : decode prog_1_method_5_code 9 = .ok (.iadd, 1) := by decide +kernel
theorem d36_10 : decode prog_1_method_5_code 10 = .ok (.putfield 40, 3) := by decide +kernel
theorem d36_13 : decode prog_1_method_5_code 13 = .ok (.aload_n 0, 1) := by decide +kernel
theorem d36_14 : decode prog_1_method_5_code 14 = .ok (.dup, 1) := by decide +kernel
theorem d36_15 : decode prog_1_method_5_code 15 = .ok (.getfield 44, 3) := by decide +kernel
theorem d36_18 : decode prog_1_method_5_code 18 = .ok (.aload_n 1, 1) := by decide +kernel
theorem d36_19 : decode prog_1_method_5_code 19 = .ok (.getfield 44, 3) := by decide +kernel
theorem d36_22 : decode prog_1_method_5_code 22 = .ok (.iadd, 1) := by decide +kernel
theorem d36_23 : decode prog_1_method_5_code 23 = .ok (.putfield 44, 3) := by decide +kernel
theorem d36_26 : decode prog_1_method_5_code 26 = .ok (.aload_n 0, 1) := by decide +kernel
theorem d36_27 : decode prog_1_method_5_code 27 = .ok (.getfield 17, 3) := by decide +kernel
theorem d36_30 : decode prog_1_method_5_code 30 = .ok (.aload_n 1, 1) := by decide +kernel
theorem d36_31 : decode prog_1_method_5_code 31 = .ok (.getfield 17, 3) := by decide +kernel
theorem d36_34 : decode prog_1_method_5_code 34 = .ok (.invokeinterface 58 2, 5) := by decide +kernel
theorem d36_39 : decode prog_1_method_5_code 39 = .ok (.pop, 1) := by decide +kernel
theorem d36_40 : decode prog_1_method_5_code 40 = .ok (.return_, 1) := by decide +kernel
theorem ef_36 (m : MethodId) (ra : Addr) (rb : Addr) : entryFrame m #[(.ref ra), (.ref rb)] 2 = mkF m 0 #[.val (.ref ra), .val (.ref rb)] [] := by first | (simp [entryFrame, mkF, argsToLocals, Value.category]; done) | rfl
def Q36 (Z : State) (ra : Addr) (rb : Addr) (la : Addr) (da : Int32) (na : Int32) (ma : Int32) (ea : Addr) (ka : ClassId) (ks : Int32) (va : List Value) (lb : Addr) (db : Int32) (nb : Int32) (mb : Int32) (u_DEFAULTCAPACITY_EMPTY_ELEMENTDATA : Addr) (cl_u_DEFAULTCAPACITY_EMPTY_ELEMENTDATA : Cell) (mr : Addr) (h0 : Heap) (n0 : Nat) (v : Option Value) (h : Heap) (L : List Loc) : Prop := v = none ∧ Fr n0 L ∧ Keep h0 h [ra, la] ∧ Exa Z h ra "com/example/batchrake/batchrake/DeleteReport" ∧ Fld Z h ra "com/example/batchrake/batchrake/DeleteReport" "failures" "Ljava/util/List;" (.ref la) ∧ Exa Z h la "java/util/ArrayList" ∧ Fld Z h la "java/util/ArrayList" "size" "I" (.int ks)
set_option maxRecDepth 65536 in
set_option maxHeartbeats 40000000 in
theorem rm36 (l : Launch) (Z : State) (a0 : Array Value) (hw : ∀ d ∈ tables_1, d.before a0 Z = true) (ws : List Jvm.Cond) (ra : Addr) (rb : Addr) (la : Addr) (da : Int32) (na : Int32) (ma : Int32) (ea : Addr) (ka : ClassId) (ks : Int32) (va : List Value) (lb : Addr) (db : Int32) (nb : Int32) (mb : Int32) (u_DEFAULTCAPACITY_EMPTY_ELEMENTDATA : Addr) (cl_u_DEFAULTCAPACITY_EMPTY_ELEMENTDATA : Cell) (mr : Addr) (h0 : Heap) (n0 : Nat) (Z0 : n0 ≤ h0.size) (S_DEFAULTCAPACITY_EMPTY_ELEMENTDATA : Sta Z h0 "java/util/ArrayList" "DEFAULTCAPACITY_EMPTY_ELEMENTDATA" "[Ljava/lang/Object;" (.ref u_DEFAULTCAPACITY_EMPTY_ELEMENTDATA)) (V_u_DEFAULTCAPACITY_EMPTY_ELEMENTDATA : Arv Z h0 u_DEFAULTCAPACITY_EMPTY_ELEMENTDATA cl_u_DEFAULTCAPACITY_EMPTY_ELEMENTDATA.cls (.object "java/lang/Object") (0 : Int32) [] .null) (E_u_DEFAULTCAPACITY_EMPTY_ELEMENTDATA : Exa Z h0 u_DEFAULTCAPACITY_EMPTY_ELEMENTDATA "[Ljava/lang/Object;") (AEr : Exa Z h0 ra "com/example/batchrake/batchrake/DeleteReport") (AFf : Fld Z h0 ra "com/example/batchrake/batchrake/DeleteReport" "failures" "Ljava/util/List;" (.ref la)) (AFd : Fld Z h0 ra "com/example/batchrake/batchrake/DeleteReport" "deleted" "I" (.int da)) (AFn : Fld Z h0 ra "com/example/batchrake/batchrake/DeleteReport" "notFound" "I" (.int na)) (AEl : Exa Z h0 la "java/util/ArrayList") (AFm : Fld Z h0 la "java/util/AbstractList" "modCount" "I" (.int ma)) (AFz : Fld Z h0 la "java/util/ArrayList" "size" "I" (.int ks)) (AFe : Fld Z h0 la "java/util/ArrayList" "elementData" "[Ljava/lang/Object;" (.ref ea)) (AVe : Arv Z h0 ea ka (.object "java/lang/Object") (10 : Int32) va .null) (AEd : Exa Z h0 ea "[Ljava/lang/Object;") (BEr : Exa Z h0 rb "com/example/batchrake/batchrake/DeleteReport") (BFf : Fld Z h0 rb "com/example/batchrake/batchrake/DeleteReport" "failures" "Ljava/util/List;" (.ref lb)) (BFd : Fld Z h0 rb "com/example/batchrake/batchrake/DeleteReport" "deleted" "I" (.int db)) (BFn : Fld Z h0 rb "com/example/batchrake/batchrake/DeleteReport" "notFound" "I" (.int nb)) (BEl : Exa Z h0 lb "java/util/ArrayList") (BFm : Fld Z h0 lb "java/util/AbstractList" "modCount" "I" (.int mb)) (BFz : Fld Z h0 lb "java/util/ArrayList" "size" "I" (.int (0 : Int32))) (BFe : Fld Z h0 lb "java/util/ArrayList" "elementData" "[Ljava/lang/Object;" (.ref u_DEFAULTCAPACITY_EMPTY_ELEMENTDATA)) (hmir : Mir Z "[Ljava/lang/Object;" mr) (hnd : u_DEFAULTCAPACITY_EMPTY_ELEMENTDATA ≠ la) (hovA : Ovr Z ka "java/lang/Object") (hne : ea ≠ la) (hks : ks = (1 : Int32) ∨ ks = (2 : Int32)) (hva : va.length = 10) (hr_la : la ≠ ra) (hr_ea : ea ≠ ra) (hr_rb : rb ≠ ra) (hr_lb : lb ≠ ra) (hr_u_DEFAULTCAPACITY_EMPTY_ELEMENTDATA : u_DEFAULTCAPACITY_EMPTY_ELEMENTDATA ≠ ra) (g_ra : n0 ≤ ra) (g_la : n0 ≤ la) :
    MetFree l (⟨"com/example/batchrake/batchrake/DeleteReport", "add", "(Lcom/example/batchrake/batchrake/DeleteReport;)V"⟩ : MethodName) (head1 (Jvm.Cond.code (⟨"com/example/batchrake/batchrake/DeleteReport", "add", "(Lcom/example/batchrake/batchrake/DeleteReport;)V"⟩ : MethodName) prog_1_method_5_code 2 none :: ws) ({ frames := 5, cells := 1, slots := 0, locals := 97 } : Room)) (fun a U => a = #[(.ref ra), (.ref rb)] ∧ Z.Warmed39 U.vm ∧ U.heap = h0) (fun _ _ _ _ _ => True) (fun _ U o U' => ∃ v L, o = .returned v ∧ Q36 Z ra rb la da na ma ea ka ks va lb db nb mb u_DEFAULTCAPACITY_EMPTY_ELEMENTDATA cl_u_DEFAULTCAPACITY_EMPTY_ELEMENTDATA mr h0 n0 v U'.heap L ∧ FrameEnd U o U' L ({ frames := 5, cells := 1, slots := 0, locals := 97 } : Room).cells ({ frames := 5, cells := 1, slots := 0, locals := 97 } : Room).slots) := by
  refine MetFree.of_bodySF (plainFor_of_name pn_3) hisR ?_
  intro p e s m args below meth c s₁ Bd hml0 hP hK
  obtain ⟨rfl, hZ, hh⟩ := hP
  have hx := Bd.exec
  have hby := Bd.bytes
  have hml : c.maxLocals = 2 := hml0
  have hown : s.vm.findClass "com/example/batchrake/batchrake/DeleteReport" = some m.cls := findClass_of_methodNamed Bd.named
  have hnm := (name_of_methodNamed Bd.named Bd.method).1
  have X0 : Stand p l e ({ frames := 5, cells := 1, slots := 0, locals := 97 } : Room) s m #[(.ref ra), (.ref rb)] below meth c s₁ [] 0 0 := Stand.of_body Bd
  have e0 : s₁.heap = h0 := by rw [← hh, Bd.state]; rfl
  have N0 := Fr.nil n0
  have pre0 : ∀ t, Steps p.tables e below (s₁.setTop (mkF m 0 #[.val (.ref ra), .val (.ref rb)] [])) t → Steps p.tables e below (s₁.setTop (entryFrame m #[(.ref ra), (.ref rb)] 2)) t := fun t k => castTop (ef_36 m ra rb) k
  obtain ⟨T1, X1, e1, st1⟩ := getF X0 hx hZ hown (host := "") (Or.inl (wd hw 97 rfl)) Via.refl e0 AFd (g := (mkF m 2 #[.val (.ref ra), .val (.ref rb)] [(.ref ra), (.ref ra)])) rfl rfl (hb hby d36_2)
  obtain ⟨T2, X2, e2, st2⟩ := getF X1 hx hZ hown (host := "") (Or.inl (wd hw 97 rfl)) Via.refl e1 BFd (g := (mkF m 6 #[.val (.ref ra), .val (.ref rb)] [(.ref rb), (.int da), (.ref ra)])) rfl rfl (hb hby d36_6)
  obtain ⟨T3, h3, X3, e3, W3, st3⟩ := putF X2 hx hZ hown (host := "") (Or.inl (wd hw 97 rfl)) Via.refl e2 AFd AEr (Or.inl (wd hw 98 rfl)) (wd hw 2 rfl) (ty := .int) (by decide) rfl rfl (g := (mkF m 10 #[.val (.ref ra), .val (.ref rb)] [(.int (da + db)), (.ref ra)])) rfl rfl (hb hby d36_10)
  have Fw3 : Fld Z h3 ra "com/example/batchrake/batchrake/DeleteReport" "deleted" "I" (.int (da + db)) := AFd.same W3
  have F4 := S_DEFAULTCAPACITY_EMPTY_ELEMENTDATA.wr W3
  have F5 := V_u_DEFAULTCAPACITY_EMPTY_ELEMENTDATA.other W3 hr_u_DEFAULTCAPACITY_EMPTY_ELEMENTDATA
  have F6 := E_u_DEFAULTCAPACITY_EMPTY_ELEMENTDATA.wr W3
  have F7 := AEr.wr W3
  have F8 := AFf.other W3 (Or.inr (slot_ne (Or.inr (wd hw 46 rfl)) (Or.inl (wd hw 98 rfl)) (by decide) (t := (.object "java/util/List")) (t' := .int) (by decide) (by decide)))
  have F10 := AFn.other W3 (Or.inr (slot_ne (Or.inl (wd hw 155 rfl)) (Or.inl (wd hw 98 rfl)) (by decide) (t := .int) (t' := .int) (by decide) (by decide)))
  have F11 := AEl.wr W3
  have F12 := AFm.other W3 (Or.inl hr_la)
  have F13 := AFz.other W3 (Or.inl hr_la)
  have F14 := AFe.other W3 (Or.inl hr_la)
  have F15 := AVe.other W3 hr_ea
  have F16 := AEd.wr W3
  have F17 := BEr.wr W3
  have F18 := BFf.other W3 (Or.inl hr_rb)
  have F19 := BFd.other W3 (Or.inl hr_rb)
  have F20 := BFn.other W3 (Or.inl hr_rb)
  have F21 := BEl.wr W3
  have F22 := BFm.other W3 (Or.inl hr_lb)
  have F23 := BFz.other W3 (Or.inl hr_lb)
  have F24 := BFe.other W3 (Or.inl hr_lb)
  have N3 := Fr.snoc X3 N0 g_ra
  have K3 : Keep h0 h3 [ra, la] := (Keep.refl h0 [ra, la]).wr W3 (Or.inl (List.mem_of_getElem? (i := 0) rfl))
  have Zs3 : n0 ≤ h3.size := by rw [W3.size]; exact Z0
  obtain ⟨T25, X25, e25, st25⟩ := getF X3 hx hZ hown (host := "") (Or.inl (wd hw 154 rfl)) Via.refl e3 F10 (g := (mkF m 15 #[.val (.ref ra), .val (.ref rb)] [(.ref ra), (.ref ra)])) rfl rfl (hb hby d36_15)
  obtain ⟨T26, X26, e26, st26⟩ := getF X25 hx hZ hown (host := "") (Or.inl (wd hw 154 rfl)) Via.refl e25 F20 (g := (mkF m 19 #[.val (.ref ra), .val (.ref rb)] [(.ref rb), (.int na), (.ref ra)])) rfl rfl (hb hby d36_19)
  obtain ⟨T27, h27, X27, e27, W27, st27⟩ := putF X26 hx hZ hown (host := "") (Or.inl (wd hw 154 rfl)) Via.refl e26 F10 F7 (Or.inl (wd hw 155 rfl)) (wd hw 2 rfl) (ty := .int) (by decide) rfl rfl (g := (mkF m 23 #[.val (.ref ra), .val (.ref rb)] [(.int (na + nb)), (.ref ra)])) rfl rfl (hb hby d36_23)
  have Fw27 : Fld Z h27 ra "com/example/batchrake/batchrake/DeleteReport" "notFound" "I" (.int (na + nb)) := F10.same W27
  have F28 := F4.wr W27
  have F29 := F5.other W27 hr_u_DEFAULTCAPACITY_EMPTY_ELEMENTDATA
  have F30 := F6.wr W27
  have F31 := F7.wr W27
  have F32 := F8.other W27 (Or.inr (slot_ne (Or.inr (wd hw 46 rfl)) (Or.inl (wd hw 155 rfl)) (by decide) (t := (.object "java/util/List")) (t' := .int) (by decide) (by decide)))
  have F34 := F11.wr W27
  have F35 := F12.other W27 (Or.inl hr_la)
  have F36 := F13.other W27 (Or.inl hr_la)
  have F37 := F14.other W27 (Or.inl hr_la)
  have F38 := F15.other W27 hr_ea
  have F39 := F16.wr W27
  have F40 := F17.wr W27
  have F41 := F18.other W27 (Or.inl hr_rb)
  have F42 := F19.other W27 (Or.inl hr_rb)
  have F43 := F20.other W27 (Or.inl hr_rb)
  have F44 := F21.wr W27
  have F45 := F22.other W27 (Or.inl hr_lb)
  have F46 := F23.other W27 (Or.inl hr_lb)
  have F47 := F24.other W27 (Or.inl hr_lb)
  have F48 := Fw3.other W27 (Or.inr (slot_ne (Or.inl (wd hw 98 rfl)) (Or.inl (wd hw 155 rfl)) (by decide) (t := .int) (t' := .int) (by decide) (by decide)))
  have N27 := Fr.snoc X27 N3 g_ra
  have K27 : Keep h0 h27 [ra, la] := K3.wr W27 (Or.inl (List.mem_of_getElem? (i := 0) rfl))
  have Zs27 : n0 ≤ h27.size := by rw [W27.size]; exact Zs3
  obtain ⟨T49, X49, e49, st49⟩ := getF X27 hx hZ hown (host := "") (Or.inl (wd hw 45 rfl)) Via.refl e27 F32 (g := (mkF m 27 #[.val (.ref ra), .val (.ref rb)] [(.ref ra)])) rfl rfl (hb hby d36_27)
  obtain ⟨T50, X50, e50, st50⟩ := getF X49 hx hZ hown (host := "") (Or.inl (wd hw 45 rfl)) Via.refl e49 F41 (g := (mkF m 31 #[.val (.ref ra), .val (.ref rb)] [(.ref rb), (.ref la)])) rfl rfl (hb hby d36_31)
  obtain ⟨cq51, kq51, q51a, q51b, q51c⟩ := isOf hZ e50 F34
  obtain ⟨_, _, ⟨T51, L51, k51, n51⟩, -, X51, ⟨Lc51, hQ51, l51, y51, z51⟩, st51⟩ := X50.interfaceBack hx (xi := (⟨"java/util/List", "addAll", "(Ljava/util/Collection;)Z"⟩ : MethodName)) (y := (⟨"java/util/ArrayList", "addAll", "(Ljava/util/Collection;)Z"⟩ : MethodName)) hown (mvT hZ (wd hw 156 rfl)) (mvT hZ (wd hw 157 rfl)) (mvT hZ (wd hw 158 rfl)) (mvT hZ (wd hw 159 rfl)) (mvT hZ (wd hw 160 rfl)) (mvT hZ (wd hw 161 rfl)) (mvT hZ (wd hw 162 rfl)) (mvT hZ (wd hw 119 rfl)) (by decide) (backOf (W := 0) (rm35 l Z a0 hw [] la lb ma ea ka ks va mb u_DEFAULTCAPACITY_EMPTY_ELEMENTDATA cl_u_DEFAULTCAPACITY_EMPTY_ELEMENTDATA mr h27 n0 Zs27 F28 F29 F30 F34 F35 F36 F37 F38 F39 F44 F45 F46 F47 hmir hnd hovA hne hks hva g_la) hZ (wd hw 163 rfl) (wd hw 23 rfl) (by decide) (by decide)) q51a q51b q51c (g := (mkF m 34 #[.val (.ref ra), .val (.ref rb)] [(.ref lb), (.ref la)])) rfl (by rw [hml]; rfl) (Steps.refl _) (argsL := [(.ref lb)]) (rest := []) (lenOf pd_12 rfl) rfl (by show 2 * 0 + _ ≤ _; exact Nat.le_of_eq rfl) (hb hby d36_34) (fun _ _ => ⟨rfl, e50, (by decide : 0 + 1 ≤ _), (by decide : 0 + 0 ≤ _)⟩)
  dsimp only [Pt.U, Pt.locs, Pt.cells, Pt.slots] at X51 l51 y51 z51 st51 hQ51
  rw [l51, y51, z51] at X51
  obtain ⟨rfl, N51q, Kc51, G51_0, G51_1⟩ := hQ51
  have Zs51 : n0 ≤ T51.heap.size := Nat.le_trans Zs27 Kc51.1
  have K51 : Keep h0 T51.heap [ra, la] := K27.trans Kc51 (allS (Or.inl (List.mem_of_getElem? (i := 1) rfl)) all0)
  have F52 := own_stakeep F28 Kc51 (allS (own_nsE F34) all0)
  have F53 := F29.keep Kc51 (ninS hnd nin0)
  have F54 := F30.keep Kc51
  have F55 := F31.keep Kc51
  have F56 := F32.keep Kc51 (ninS (Ne.symm hr_la) nin0)
  have F59 := F38.keep Kc51 (ninS hne nin0)
  have F60 := F39.keep Kc51
  have F61 := F40.keep Kc51
  have F65 := F44.keep Kc51
  have F69 := F48.keep Kc51 (ninS (Ne.symm hr_la) nin0)
  have F70 := Fw27.keep Kc51 (ninS (Ne.symm hr_la) nin0)
  have N51 := Fr.app N27 N51q
  have k71 : ∀ t, Steps p.tables e below (T51.setTop (mkF m 40 #[.val (.ref ra), .val (.ref rb)] [])) t → Steps p.tables e below (s₁.setTop (entryFrame m #[(.ref ra), (.ref rb)] 2)) t := by
    intro t k
    refine pre0 t ?_
    refine XS.aloadN X0.here hx rfl (hb hby d36_0) rfl rfl ?_
    refine XS.dup X0.here hx rfl (hb hby d36_1) rfl rfl ?_
    refine st1 _ ?_
    refine XS.aloadN X1.here hx rfl (hb hby d36_5) rfl rfl ?_
    refine st2 _ ?_
    refine XS.iadd X2.here hx rfl (hb hby d36_9) rfl ?_
    refine st3 _ ?_
    refine XS.aloadN X3.here hx rfl (hb hby d36_13) rfl rfl ?_
    refine XS.dup X3.here hx rfl (hb hby d36_14) rfl rfl ?_
    refine st25 _ ?_
    refine XS.aloadN X25.here hx rfl (hb hby d36_18) rfl rfl ?_
    refine st26 _ ?_
    refine XS.iadd X26.here hx rfl (hb hby d36_22) rfl ?_
    show Steps p.tables e below (T26.setTop (mkF m 23 #[.val (.ref ra), .val (.ref rb)] [(.int (na + nb)), (.ref ra)])) _
    refine st27 _ ?_
    refine XS.aloadN X27.here hx rfl (hb hby d36_26) rfl rfl ?_
    refine st49 _ ?_
    refine XS.aloadN X49.here hx rfl (hb hby d36_30) rfl rfl ?_
    refine st50 _ ?_
    refine st51.trans ?_
    refine XS.pop X51.here hx rfl (hb hby d36_39) rfl rfl ?_
    exact k
  obtain ⟨fs, hr, hrun, hended, hW, hsame⟩ := X51.leave (v := none) (fun _ => rfl)
  refine ⟨_, _, k71 _ ?_, hrun, hended, _, _, rfl, ?_, ⟨_, rfl⟩, hW, hsame.mono (by decide) (by decide)⟩
  · exact X51.returnOut hx Bd.returns (hb hby d36_40) hr
  · show Q36 Z ra rb la da na ma ea ka ks va lb db nb mb u_DEFAULTCAPACITY_EMPTY_ELEMENTDATA cl_u_DEFAULTCAPACITY_EMPTY_ELEMENTDATA mr h0 n0 _ T51.heap _
    exact ⟨rfl, N51, K51, F55, F56, G51_0, G51_1⟩
theorem d37_0 : decode jdk_38_method_41_code 0 = .ok (.aload_n 1, 1) := by decide +kernel
theorem d37_1 : decode jdk_38_method_41_code 1 = .ok (.invokeinterface 42 1, 5) := by decide +kernel
theorem d37_6 : decode jdk_38_method_41_code 6 = .ok (.astore_n 2, 1) := by decide +kernel
theorem d37_7 : decode jdk_38_method_41_code 7 = .ok (.aload_n 0, 1) := by decide +kernel
theorem d37_8 : decode jdk_38_method_41_code 8 = .ok (.dup, 1) := by decide +kernel
theorem d37_9 : decode jdk_38_method_41_code 9 = .ok (.getfield 63, 3) := by decide +kernel
theorem d37_12 : decode jdk_38_method_41_code 12 = .ok (.iconst 1, 1) := by decide +kernel
theorem d37_13 : decode jdk_38_method_41_code 13 = .ok (.iadd, 1) := by decide +kernel
theorem d37_14 : decode jdk_38_method_41_code 14 = .ok (.putfield 63, 3) := by decide +kernel
theorem d37_17 : decode jdk_38_method_41_code 17 = .ok (.aload_n 2, 1) := by decide +kernel
theorem d37_18 : decode jdk_38_method_41_code 18 = .ok (.arraylength, 1) := by decide +kernel
theorem d37_19 : decode jdk_38_method_41_code 19 = .ok (.istore_n 3, 1) := by decide +kernel
theorem d37_20 : decode jdk_38_method_41_code 20 = .ok (.iload_n 3, 1) := by decide +kernel
theorem d37_21 : decode jdk_38_method_41_code 21 = .ok (.ifCond .ne 5, 3) := by decide +kernel
theorem d37_26 : decode jdk_38_method_41_code 26 = .ok (.iload_n 3, 1) := by decide +kernel
theorem d37_27 : decode jdk_38_method_41_code 27 = .ok (.aload_n 0, 1) := by decide +kernel
theorem d37_28 : decode jdk_38_method_41_code 28 = .ok (.getfield 9, 3) := by decide +kernel
theorem d37_31 : decode jdk_38_method_41_code 31 = .ok (.dup, 1) := by decide +kernel
theorem d37_32 : decode jdk_38_method_41_code 32 = .ok (.astore 4, 2) := by decide +kernel
theorem d37_34 : decode jdk_38_method_41_code 34 = .ok (.arraylength, 1) := by decide +kernel
theorem d37_35 : decode jdk_38_method_41_code 35 = .ok (.aload_n 0, 1) := by decide +kernel
theorem d37_36 : decode jdk_38_method_41_code 36 = .ok (.getfield 48, 3) := by decide +kernel
theorem d37_39 : decode jdk_38_method_41_code 39 = .ok (.dup, 1) := by decide +kernel
theorem d37_40 : decode jdk_38_method_41_code 40 = .ok (.istore 5, 2) := by decide +kernel
theorem d37_42 : decode jdk_38_method_41_code 42 = .ok (.isub, 1) := by decide +kernel
theorem d37_43 : decode jdk_38_method_41_code 43 = .ok (.if_icmp .le 13, 3) := by decide +kernel
theorem d37_56 : decode jdk_38_method_41_code 56 = .ok (.aload_n 2, 1) := by decide +kernel
theorem d37_57 : decode jdk_38_method_41_code 57 = .ok (.iconst 0, 1) := by decide +kernel
theorem d37_58 : decode jdk_38_method_41_code 58 = .ok (.aload 4, 2) := by decide +kernel
theorem d37_60 : decode jdk_38_method_41_code 60 = .ok (.iload 5, 2) := by decide +kernel
theorem d37_62 : decode jdk_38_method_41_code 62 = .ok (.iload_n 3, 1) := by decide +kernel
theorem d37_63 : decode jdk_38_method_41_code 63 = .ok (.invokestatic 112, 3) := by decide +kernel
theorem d37_66 : decode jdk_38_method_41_code 66 = .ok (.aload_n 0, 1) := by decide +kernel
theorem d37_67 : decode jdk_38_method_41_code 67 = .ok (.iload 5, 2) := by decide +kernel
theorem d37_69 : decode jdk_38_method_41_code 69 = .ok (.iload_n 3, 1) := by decide +kernel
theorem d37_70 : decode jdk_38_method_41_code 70 = .ok (.iadd, 1) := by decide +kernel
theorem d37_71 : decode jdk_38_method_41_code 71 = .ok (.putfield 48, 3) := by decide +kernel
theorem d37_74 : decode jdk_38_method_41_code 74 = .ok (.iconst 1, 1) := by decide +kernel
theorem d37_75 : decode jdk_38_method_41_code 75 = .ok (.ireturn, 1) := by decide +kernel
theorem ef_37 (m : MethodId) (la : Addr) (lb : Addr) : entryFrame m #[(.ref la), (.ref lb)] 6 = mkF m 0 #[.val (.ref la), .val (.ref lb), .unset, .unset, .unset, .unset] [] := by first | (simp [entryFrame, mkF, argsToLocals, Value.category]; done) | rfl
def Q37 (Z : State) (la : Addr) (lb : Addr) (ma : Int32) (ea : Addr) (ka : ClassId) (ks : Int32) (va : List Value) (mb : Int32) (eb : Addr) (kb : ClassId) (bx0 : Addr) (u_DEFAULTCAPACITY_EMPTY_ELEMENTDATA : Addr) (cl_u_DEFAULTCAPACITY_EMPTY_ELEMENTDATA : Cell) (mr : Addr) (h0 : Heap) (n0 : Nat) (v : Option Value) (h : Heap) (L : List Loc) : Prop := v = some (.int (1 : Int32)) ∧ Fr n0 L ∧ Keep h0 h [la, ea] ∧ Exa Z h la "java/util/ArrayList" ∧ Fld Z h la "java/util/ArrayList" "size" "I" (.int (ks + (1 : Int32)))
set_option maxRecDepth 65536 in
set_option maxHeartbeats 40000000 in
theorem rm37 (l : Launch) (Z : State) (a0 : Array Value) (hw : ∀ d ∈ tables_1, d.before a0 Z = true) (ws : List Jvm.Cond) (la : Addr) (lb : Addr) (ma : Int32) (ea : Addr) (ka : ClassId) (ks : Int32) (va : List Value) (mb : Int32) (eb : Addr) (kb : ClassId) (bx0 : Addr) (u_DEFAULTCAPACITY_EMPTY_ELEMENTDATA : Addr) (cl_u_DEFAULTCAPACITY_EMPTY_ELEMENTDATA : Cell) (mr : Addr) (h0 : Heap) (n0 : Nat) (Z0 : n0 ≤ h0.size) (S_DEFAULTCAPACITY_EMPTY_ELEMENTDATA : Sta Z h0 "java/util/ArrayList" "DEFAULTCAPACITY_EMPTY_ELEMENTDATA" "[Ljava/lang/Object;" (.ref u_DEFAULTCAPACITY_EMPTY_ELEMENTDATA)) (V_u_DEFAULTCAPACITY_EMPTY_ELEMENTDATA : Arv Z h0 u_DEFAULTCAPACITY_EMPTY_ELEMENTDATA cl_u_DEFAULTCAPACITY_EMPTY_ELEMENTDATA.cls (.object "java/lang/Object") (0 : Int32) [] .null) (E_u_DEFAULTCAPACITY_EMPTY_ELEMENTDATA : Exa Z h0 u_DEFAULTCAPACITY_EMPTY_ELEMENTDATA "[Ljava/lang/Object;") (AEl : Exa Z h0 la "java/util/ArrayList") (AFm : Fld Z h0 la "java/util/AbstractList" "modCount" "I" (.int ma)) (AFz : Fld Z h0 la "java/util/ArrayList" "size" "I" (.int ks)) (AFe : Fld Z h0 la "java/util/ArrayList" "elementData" "[Ljava/lang/Object;" (.ref ea)) (AVe : Arv Z h0 ea ka (.object "java/lang/Object") (10 : Int32) va .null) (AEd : Exa Z h0 ea "[Ljava/lang/Object;") (BEl : Exa Z h0 lb "java/util/ArrayList") (BFm : Fld Z h0 lb "java/util/AbstractList" "modCount" "I" (.int mb)) (BFz : Fld Z h0 lb "java/util/ArrayList" "size" "I" (.int (1 : Int32))) (BFe : Fld Z h0 lb "java/util/ArrayList" "elementData" "[Ljava/lang/Object;" (.ref eb)) (BVe : Arv Z h0 eb kb (.object "java/lang/Object") (10 : Int32) [(.ref bx0), .null, .null, .null, .null, .null, .null, .null, .null, .null] .null) (BEd : Exa Z h0 eb "[Ljava/lang/Object;") (BEbx0 : Exa Z h0 bx0 "com/example/batchrake/batchrake/DeleteReport$Failure") (hmir : Mir Z "[Ljava/lang/Object;" mr) (hnd : u_DEFAULTCAPACITY_EMPTY_ELEMENTDATA ≠ la) (hovA : Ovr Z ka "java/lang/Object") (hne : ea ≠ la) (hks : ks = (1 : Int32) ∨ ks = (2 : Int32)) (hva : va.length = 10) (g_la : n0 ≤ la) (g_ea : n0 ≤ ea) :
    MetFree l (⟨"java/util/ArrayList", "addAll", "(Ljava/util/Collection;)Z"⟩ : MethodName) (head1 (Jvm.Cond.code (⟨"java/util/ArrayList", "addAll", "(Ljava/util/Collection;)Z"⟩ : MethodName) jdk_38_method_41_code 6 (some .boolean) :: ws) ({ frames := 4, cells := 1, slots := 1, locals := 80 } : Room)) (fun a U => a = #[(.ref la), (.ref lb)] ∧ Z.Warmed39 U.vm ∧ U.heap = h0) (fun _ _ _ _ _ => True) (fun _ U o U' => ∃ v L, o = .returned v ∧ Q37 Z la lb ma ea ka ks va mb eb kb bx0 u_DEFAULTCAPACITY_EMPTY_ELEMENTDATA cl_u_DEFAULTCAPACITY_EMPTY_ELEMENTDATA mr h0 n0 v U'.heap L ∧ FrameEnd U o U' L ({ frames := 4, cells := 1, slots := 1, locals := 80 } : Room).cells ({ frames := 4, cells := 1, slots := 1, locals := 80 } : Room).slots) := by
  refine MetFree.of_bodySF (plainFor_of_name pn_2) hisR ?_
  intro p e s m args below meth c s₁ Bd hml0 hP hK
  obtain ⟨rfl, hZ, hh⟩ := hP
  have hx := Bd.exec
  have hby := Bd.bytes
  have hml : c.maxLocals = 6 := hml0
  have hown : s.vm.findClass "java/util/ArrayList" = some m.cls := findClass_of_methodNamed Bd.named
  have hnm := (name_of_methodNamed Bd.named Bd.method).1
  have X0 : Stand p l e ({ frames := 4, cells := 1, slots := 1, locals := 80 } : Room) s m #[(.ref la), (.ref lb)] below meth c s₁ [] 0 0 := Stand.of_body Bd
  have e0 : s₁.heap = h0 := by rw [← hh, Bd.state]; rfl
  have N0 := Fr.nil n0
  have pre0 : ∀ t, Steps p.tables e below (s₁.setTop (mkF m 0 #[.val (.ref la), .val (.ref lb), .unset, .unset, .unset, .unset] [])) t → Steps p.tables e below (s₁.setTop (entryFrame m #[(.ref la), (.ref lb)] 6)) t := fun t k => castTop (ef_37 m la lb) k
  obtain ⟨cq1, kq1, q1a, q1b, q1c⟩ := isOf hZ e0 BEl
  obtain ⟨_, _, ⟨T1, L1, k1, n1⟩, -, X1, ⟨Lc1, hQ1, l1, y1, z1⟩, st1⟩ := X0.interfaceBack hx (xi := (⟨"java/util/Collection", "toArray", "()[Ljava/lang/Object;"⟩ : MethodName)) (y := (⟨"java/util/ArrayList", "toArray", "()[Ljava/lang/Object;"⟩ : MethodName)) hown (mvT hZ (wd hw 164 rfl)) (mvT hZ (wd hw 165 rfl)) (mvT hZ (wd hw 166 rfl)) (mvT hZ (wd hw 167 rfl)) (mvT hZ (wd hw 168 rfl)) (mvT hZ (wd hw 169 rfl)) (mvT hZ (wd hw 170 rfl)) (mvT hZ (wd hw 171 rfl)) (by decide) (backOf (W := 0) (rm30 l Z a0 hw [] lb mr kb bx0 eb h0 n0 Z0 BEl BFz BFe BVe BEbx0 BEd hmir) hZ (wd hw 172 rfl) (wd hw 23 rfl) (by decide) (by decide)) q1a q1b q1c (g := (mkF m 1 #[.val (.ref la), .val (.ref lb), .unset, .unset, .unset, .unset] [(.ref lb)])) rfl (by rw [hml]; rfl) (Steps.refl _) (argsL := []) (rest := []) (lenOf pd_8 rfl) rfl (by show 2 * 0 + _ ≤ _; exact Nat.le_of_eq rfl) (hb hby d37_1) (fun _ _ => ⟨rfl, e0, (by decide : 0 + 1 ≤ _), (by decide : 0 + 1 ≤ _)⟩)
  dsimp only [Pt.U, Pt.locs, Pt.cells, Pt.slots] at X1 l1 y1 z1 st1 hQ1
  rw [l1, y1, z1] at X1
  obtain ⟨cx_1, kc_1, rfl, N1q, Kc1, ggcx_1, szcx_1, G1_0⟩ := hQ1
  have ne2 : u_DEFAULTCAPACITY_EMPTY_ELEMENTDATA ≠ cx_1 := Nat.ne_of_lt (Nat.lt_of_lt_of_le V_u_DEFAULTCAPACITY_EMPTY_ELEMENTDATA.lt szcx_1)
  have ne3 : la ≠ cx_1 := Nat.ne_of_lt (Nat.lt_of_lt_of_le AEl.lt szcx_1)
  have ne4 : ea ≠ cx_1 := Nat.ne_of_lt (Nat.lt_of_lt_of_le AVe.lt szcx_1)
  have ne5 : lb ≠ cx_1 := Nat.ne_of_lt (Nat.lt_of_lt_of_le BEl.lt szcx_1)
  have ne6 : eb ≠ cx_1 := Nat.ne_of_lt (Nat.lt_of_lt_of_le BVe.lt szcx_1)
  have ne7 : bx0 ≠ cx_1 := Nat.ne_of_lt (Nat.lt_of_lt_of_le BEbx0.lt szcx_1)
  have szzcx_1 : h0.size ≤ cx_1 := Nat.le_trans (Keep.refl h0 [la, ea]).1 szcx_1
  have Zs1 : n0 ≤ T1.heap.size := Nat.le_trans Z0 Kc1.1
  have K1 : Keep h0 T1.heap [la, ea] := (Keep.refl h0 [la, ea]).trans Kc1 all0
  have F8 := own_stakeep S_DEFAULTCAPACITY_EMPTY_ELEMENTDATA Kc1 all0
  have F9 := V_u_DEFAULTCAPACITY_EMPTY_ELEMENTDATA.keep Kc1 nin0
  have F10 := E_u_DEFAULTCAPACITY_EMPTY_ELEMENTDATA.keep Kc1
  have F11 := AEl.keep Kc1
  have F12 := AFm.keep Kc1 nin0
  have F13 := AFz.keep Kc1 nin0
  have F14 := AFe.keep Kc1 nin0
  have F15 := AVe.keep Kc1 nin0
  have F16 := AEd.keep Kc1
  have F17 := BEl.keep Kc1
  have F18 := BFm.keep Kc1 nin0
  have F19 := BFz.keep Kc1 nin0
  have F20 := BFe.keep Kc1 nin0
  have F21 := BVe.keep Kc1 nin0
  have F22 := BEd.keep Kc1
  have F23 := BEbx0.keep Kc1
  have N1 := Fr.app N0 N1q
  obtain ⟨T24, X24, e24, st24⟩ := getF X1 hx hZ hown (host := "") (Or.inl (wd hw 121 rfl)) (Via.of (wd hw 122 rfl)) rfl F12 (g := (mkF m 9 #[.val (.ref la), .val (.ref lb), .val (.ref cx_1), .unset, .unset, .unset] [(.ref la), (.ref la)])) rfl rfl (hb hby d37_9)
  obtain ⟨T25, h25, X25, e25, W25, st25⟩ := putF X24 hx hZ hown (host := "") (Or.inl (wd hw 121 rfl)) (Via.of (wd hw 122 rfl)) e24 F12 F11 (Or.inl (wd hw 41 rfl)) (wd hw 22 rfl) (ty := .int) (by decide) rfl rfl (g := (mkF m 14 #[.val (.ref la), .val (.ref lb), .val (.ref cx_1), .unset, .unset, .unset] [(.int (ma + (1 : Int32))), (.ref la)])) rfl rfl (hb hby d37_14)
  have Fw25 : Fld Z h25 la "java/util/AbstractList" "modCount" "I" (.int (ma + (1 : Int32))) := F12.same W25
  have F26 := F8.wr W25
  have F27 := F9.other W25 hnd
  have F28 := F10.wr W25
  have F29 := F11.wr W25
  have F31 := F13.other W25 (Or.inr (slot_ne (Or.inl (wd hw 124 rfl)) (Or.inl (wd hw 41 rfl)) (by decide) (t := .int) (t' := .int) (by decide) (by decide)))
  have F32 := F14.other W25 (Or.inr (slot_ne (Or.inl (wd hw 44 rfl)) (Or.inl (wd hw 41 rfl)) (by decide) (t := (.array (.object "java/lang/Object"))) (t' := .int) (by decide) (by decide)))
  have F33 := F15.other W25 hne
  have F34 := F16.wr W25
  have F35 := F17.wr W25
  have F40 := F22.wr W25
  have F41 := F23.wr W25
  have F42 := G1_0.other W25 (Ne.symm ne3)
  have N25 := Fr.snoc X25 N1 g_la
  have K25 : Keep h0 h25 [la, ea] := K1.wr W25 (Or.inl (List.mem_of_getElem? (i := 0) rfl))
  have Zs25 : n0 ≤ h25.size := by rw [W25.size]; exact Zs1
  obtain ⟨cl43, Ar43, qc43, Sz43, Nn43, Hh43, Gg43⟩ := (id F42)
  obtain ⟨T44, X44, e44, st44⟩ := getF X25 hx hZ hown (host := "") (Or.inl (wd hw 43 rfl)) Via.refl e25 F32 (g := (mkF m 28 #[.val (.ref la), .val (.ref lb), .val (.ref cx_1), .val (.int (1 : Int32)), .unset, .unset] [(.ref la), (.int (1 : Int32))])) rfl rfl (hb hby d37_28)
  obtain ⟨cl45, Ar45, qc45, Sz45, Nn45, Hh45, Gg45⟩ := (id F33)
  obtain ⟨T46, X46, e46, st46⟩ := getF X44 hx hZ hown (host := "") (Or.inl (wd hw 123 rfl)) Via.refl e44 F31 (g := (mkF m 36 #[.val (.ref la), .val (.ref lb), .val (.ref cx_1), .val (.int (1 : Int32)), .val (.ref ea), .unset] [(.ref la), (.int (10 : Int32)), (.int (1 : Int32))])) rfl rfl (hb hby d37_36)
  obtain ⟨cl47, Ar47, qc47, Sz47, Nn47, Hh47, Gg47⟩ := (id F33)
  obtain ⟨T48, h48, L48, X48, e48, N48, Kc48, V48, st48⟩ := cpA X46 hx hZ hown (wd hw 195 rfl) (wd hw 194 rfl) (wd hw 192 rfl) (wd hw 193 rfl) e46 F42 F33 (Or.inr ⟨rfl, rfl, (show StoL Z h25 ea [.ref bx0] from ⟨Sto.ofV Ar47 qc47 hovA (Ins.of_exa F41 (wd hw 146 rfl)), trivial⟩)⟩) (by decide) (own_ks _ hks).2.2.2.1 (by decide) (by decide) (own_ks _ hks).2.2.2.2 rfl (by rw [hva]; exact (own_ks _ hks).2.2.2.2) N25 g_ea (g := (mkF m 63 #[.val (.ref la), .val (.ref lb), .val (.ref cx_1), .val (.int (1 : Int32)), .val (.ref ea), .val (.int ks)] [(.int (1 : Int32)), (.int ks), (.ref ea), (.int (0 : Int32)), (.ref cx_1)])) rfl (by rw [hml]; rfl) rfl (hb hby d37_63) (by decide) (W := 0) (by show 2 * 0 + _ ≤ _; exact Nat.le_of_eq rfl) (by decide)
  have Zs48 : n0 ≤ h48.size := Nat.le_trans Zs25 Kc48.1
  have K48 : Keep h0 h48 [la, ea] := K25.trans Kc48 (allS (Or.inl (List.mem_of_getElem? (i := 1) rfl)) all0)
  have F49 := own_stakeep F26 Kc48 (allS (own_nsE F34) all0)
  have F51 := F28.keep Kc48
  have F52 := F29.keep Kc48
  have F53 := F31.keep Kc48 (ninS (Ne.symm hne) nin0)
  have F54 := F32.keep Kc48 (ninS (Ne.symm hne) nin0)
  have F56 := F34.keep Kc48
  have F57 := F35.keep Kc48
  have F58 := F40.keep Kc48
  have F59 := F41.keep Kc48
  have F60 := F42.keep Kc48 (ninS (Ne.symm ne4) nin0)
  have F61 := Fw25.keep Kc48 (ninS (Ne.symm hne) nin0)
  obtain ⟨T62, h62, X62, e62, W62, st62⟩ := putF X48 hx hZ hown (host := "") (Or.inl (wd hw 123 rfl)) Via.refl e48 F53 F52 (Or.inl (wd hw 124 rfl)) (wd hw 22 rfl) (ty := .int) (by decide) rfl rfl (g := (mkF m 71 #[.val (.ref la), .val (.ref lb), .val (.ref cx_1), .val (.int (1 : Int32)), .val (.ref ea), .val (.int ks)] [(.int (ks + (1 : Int32))), (.ref la)])) rfl rfl (hb hby d37_71)
  have Fw62 : Fld Z h62 la "java/util/ArrayList" "size" "I" (.int (ks + (1 : Int32))) := F53.same W62
  have F63 := F49.wr W62
  have F64 := F51.wr W62
  have F65 := F52.wr W62
  have F67 := F54.other W62 (Or.inr (slot_ne (Or.inl (wd hw 44 rfl)) (Or.inl (wd hw 124 rfl)) (by decide) (t := (.array (.object "java/lang/Object"))) (t' := .int) (by decide) (by decide)))
  have F68 := F56.wr W62
  have F69 := F57.wr W62
  have F70 := F58.wr W62
  have F71 := F59.wr W62
  have F72 := F60.other W62 (Ne.symm ne3)
  have F73 := F61.other W62 (Or.inr (slot_ne (Or.inl (wd hw 41 rfl)) (Or.inl (wd hw 124 rfl)) (by decide) (t := .int) (t' := .int) (by decide) (by decide)))
  have N62 := Fr.snoc X62 N48 g_la
  have K62 : Keep h0 h62 [la, ea] := K48.wr W62 (Or.inl (List.mem_of_getElem? (i := 0) rfl))
  have Zs62 : n0 ≤ h62.size := by rw [W62.size]; exact Zs48
  have k74 : ∀ t, Steps p.tables e below (T62.setTop (mkF m 75 #[.val (.ref la), .val (.ref lb), .val (.ref cx_1), .val (.int (1 : Int32)), .val (.ref ea), .val (.int ks)] [(.int (1 : Int32))])) t → Steps p.tables e below (s₁.setTop (entryFrame m #[(.ref la), (.ref lb)] 6)) t := by
    intro t k
    refine pre0 t ?_
    refine XS.aloadN X0.here hx rfl (hb hby d37_0) rfl rfl ?_
    refine st1.trans ?_
    refine XS.astoreN X1.here hx rfl (hb hby d37_6) rfl rfl (l' := #[.val (.ref la), .val (.ref lb), .val (.ref cx_1), .unset, .unset, .unset]) rfl ?_
    refine XS.aloadN X1.here hx rfl (hb hby d37_7) rfl rfl ?_
    refine XS.dup X1.here hx rfl (hb hby d37_8) rfl rfl ?_
    refine st24 _ ?_
    refine XS.iconst X24.here hx rfl (hb hby d37_12) ?_
    refine XS.iadd X24.here hx rfl (hb hby d37_13) rfl ?_
    refine st25 _ ?_
    refine XS.aloadN X25.here hx rfl (hb hby d37_17) rfl rfl ?_
    refine X25.arraylength hx (by rw [e25]; exact Ar43.1) (State.isArrayOf_alike hZ.alike Ar43.2.1) (g := (mkF m 18 #[.val (.ref la), .val (.ref lb), .val (.ref cx_1), .unset, .unset, .unset] [(.ref cx_1)])) rfl rfl (hb hby d37_18) _ ?_
    rw [len_of Sz43 Nn43]
    refine XS.istoreN X25.here hx rfl (hb hby d37_19) rfl (l' := #[.val (.ref la), .val (.ref lb), .val (.ref cx_1), .val (.int (1 : Int32)), .unset, .unset]) rfl ?_
    refine XS.iloadN X25.here hx rfl (hb hby d37_20) rfl ?_
    show Steps p.tables e below (T25.setTop (mkF m 21 #[.val (.ref la), .val (.ref lb), .val (.ref cx_1), .val (.int (1 : Int32)), .unset, .unset] [(.int (1 : Int32))])) _
    refine XS.ifYes X25.here hx rfl (pc0 := 21) (pc' := 26) rfl (hb hby d37_21) rfl ((if0 _ _).trans (feq (by decide : ¬ ((1 : Int32) = (0 : Int32)))).2) (by decide) (by decide) ?_
    refine XS.iloadN X25.here hx rfl (hb hby d37_26) rfl ?_
    refine XS.aloadN X25.here hx rfl (hb hby d37_27) rfl rfl ?_
    refine st44 _ ?_
    refine XS.dup X44.here hx rfl (hb hby d37_31) rfl rfl ?_
    refine XS.astore X44.here hx rfl (hb hby d37_32) rfl rfl (l' := #[.val (.ref la), .val (.ref lb), .val (.ref cx_1), .val (.int (1 : Int32)), .val (.ref ea), .unset]) rfl ?_
    refine X44.arraylength hx (by rw [e44]; exact Ar45.1) (State.isArrayOf_alike hZ.alike Ar45.2.1) (g := (mkF m 34 #[.val (.ref la), .val (.ref lb), .val (.ref cx_1), .val (.int (1 : Int32)), .val (.ref ea), .unset] [(.ref ea), (.int (1 : Int32))])) rfl rfl (hb hby d37_34) _ ?_
    rw [len_of Sz45 Nn45]
    refine XS.aloadN X44.here hx rfl (hb hby d37_35) rfl rfl ?_
    refine st46 _ ?_
    refine XS.dup X46.here hx rfl (hb hby d37_39) rfl rfl ?_
    refine XS.istore X46.here hx rfl (hb hby d37_40) rfl (l' := #[.val (.ref la), .val (.ref lb), .val (.ref cx_1), .val (.int (1 : Int32)), .val (.ref ea), .val (.int ks)]) rfl ?_
    refine XS.isub X46.here hx rfl (hb hby d37_42) rfl ?_
    refine XS.icmpYes X46.here hx rfl (pc0 := 43) (pc' := 56) rfl (hb hby d37_43) rfl (flt (own_ks _ hks).2.2.1).2.2.2 (by decide) (by decide) ?_
    refine XS.aloadN X46.here hx rfl (hb hby d37_56) rfl rfl ?_
    show Steps p.tables e below (T46.setTop (mkF m 57 #[.val (.ref la), .val (.ref lb), .val (.ref cx_1), .val (.int (1 : Int32)), .val (.ref ea), .val (.int ks)] [(.ref cx_1)])) _
    refine XS.iconst X46.here hx rfl (hb hby d37_57) ?_
    refine XS.aload X46.here hx rfl (hb hby d37_58) rfl rfl ?_
    refine XS.iload X46.here hx rfl (hb hby d37_60) rfl ?_
    refine XS.iloadN X46.here hx rfl (hb hby d37_62) rfl ?_
    refine st48 _ ?_
    refine XS.aloadN X48.here hx rfl (hb hby d37_66) rfl rfl ?_
    refine XS.iload X48.here hx rfl (hb hby d37_67) rfl ?_
    refine XS.iloadN X48.here hx rfl (hb hby d37_69) rfl ?_
    refine XS.iadd X48.here hx rfl (hb hby d37_70) rfl ?_
    refine st62 _ ?_
    refine XS.iconst X62.here hx rfl (hb hby d37_74) ?_
    exact k
  obtain ⟨fs, hr, hrun, hended, hW, hsame⟩ := X62.leave (v := some (.int (1 : Int32))) (fun h => by rw [Bd.returns] at h; cases h)
  refine ⟨_, _, k74 _ ?_, hrun, hended, _, _, rfl, ?_, ⟨_, rfl⟩, hW, hsame.mono (by decide) (by decide)⟩
  · exact retN X62 hx (t := .boolean) Bd.returns (by simp) (hb hby d37_75) hr
  · show Q37 Z la lb ma ea ka ks va mb eb kb bx0 u_DEFAULTCAPACITY_EMPTY_ELEMENTDATA cl_u_DEFAULTCAPACITY_EMPTY_ELEMENTDATA mr h0 n0 _ T62.heap _
    rw [e62]
    exact ⟨rfl, N62, K62, F65, Fw62⟩
theorem d38_0 : decode prog_1_method_5_code 0 = .ok (.aload_n 0, 1) := by decide +kernel
theorem d38_1 : decode prog_1_method_5_code 1 = .ok (.dup, 1) := by decide +kernel
theorem d38_2 : decode prog_1_method_5_code 2 = .ok (.getfield 40, 3) := by decide +kernel
theorem d38_5 : decode prog_1_method_5_code 5 = .ok (.aload_n 1, 1) := by decide +kernel
theorem d38_6 : decode prog_1_method_5_code 6 = .ok (.getfield 40, 3) := by decide +kernel
theorem d38_9 : decode prog_1_method_5_code 9 = .ok (.iadd, 1) := by decide +kernel
theorem d38_10 : decode prog_1_method_5_code 10 = .ok (.putfield 40, 3) := by decide +kernel
theorem d38_13 : decode prog_1_method_5_code 13 = .ok (.aload_n 0, 1) := by decide +kernel
theorem d38_14 : decode prog_1_method_5_code 14 = .ok (.dup, 1) := by decide +kernel
theorem d38_15 : decode prog_1_method_5_code 15 = .ok (.getfield 44, 3) := by decide +kernel
theorem d38_18 : decode prog_1_method_5_code 18 = .ok (.aload_n 1, 1) := by decide +kernel
theorem d38_19 : decode prog_1_method_5_code 19 = .ok (.getfield 44, 3) := by decide +kernel
theorem d38_22 : decode prog_1_method_5_code 22 = .ok (.iadd, 1) := by decide +kernel
theorem d38_23 : decode prog_1_method_5_code 23 = .ok (.putfield 44, 3) := by decide +kernel
theorem d38_26 : decode prog_1_method_5_code 26 = .ok (.aload_n 0, 1) := by decide +kernel
theorem d38_27 : decode prog_1_method_5_code 27 = .ok (.getfield 17, 3) := by decide +kernel
theorem d38_30 : decode prog_1_method_5_code 30 = .ok (.aload_n 1, 1) := by decide +kernel
theorem d38_31 : decode prog_1_method_5_code 31 = .ok (.getfield 17, 3) := by decide +kernel
theorem d38_34 : decode prog_1_method_5_code 34 = .ok (.invokeinterface 58 2, 5) := by decide +kernel
theorem d38_39 : decode prog_1_method_5_code 39 = .ok (.pop, 1) := by decide +kernel
theorem d38_40 : decode prog_1_method_5_code 40 = .ok (.return_, 1) := by decide +kernel
theorem ef_38 (m : MethodId) (ra : Addr) (rb : Addr) : entryFrame m #[(.ref ra), (.ref rb)] 2 = mkF m 0 #[.val (.ref ra), .val (.ref rb)] [] := by first | (simp [entryFrame, mkF, argsToLocals, Value.category]; done) | rfl
def Q38 (Z : State) (ra : Addr) (rb : Addr) (la : Addr) (da : Int32) (na : Int32) (ma : Int32) (ea : Addr) (ka : ClassId) (ks : Int32) (va : List Value) (lb : Addr) (db : Int32) (nb : Int32) (mb : Int32) (eb : Addr) (kb : ClassId) (bx0 : Addr) (u_DEFAULTCAPACITY_EMPTY_ELEMENTDATA : Addr) (cl_u_DEFAULTCAPACITY_EMPTY_ELEMENTDATA : Cell) (mr : Addr) (h0 : Heap) (n0 : Nat) (v : Option Value) (h : Heap) (L : List Loc) : Prop := v = none ∧ Fr n0 L ∧ Keep h0 h [ra, la, ea] ∧ Exa Z h ra "com/example/batchrake/batchrake/DeleteReport" ∧ Fld Z h ra "com/example/batchrake/batchrake/DeleteReport" "failures" "Ljava/util/List;" (.ref la) ∧ Exa Z h la "java/util/ArrayList" ∧ Fld Z h la "java/util/ArrayList" "size" "I" (.int (ks + (1 : Int32)))
set_option maxRecDepth 65536 in
set_option maxHeartbeats 40000000 in
theorem rm38 (l : Launch) (Z : State) (a0 : Array Value) (hw : ∀ d ∈ tables_1, d.before a0 Z = true) (ws : List Jvm.Cond) (ra : Addr) (rb : Addr) (la : Addr) (da : Int32) (na : Int32) (ma : Int32) (ea : Addr) (ka : ClassId) (ks : Int32) (va : List Value) (lb : Addr) (db : Int32) (nb : Int32) (mb : Int32) (eb : Addr) (kb : ClassId) (bx0 : Addr) (u_DEFAULTCAPACITY_EMPTY_ELEMENTDATA : Addr) (cl_u_DEFAULTCAPACITY_EMPTY_ELEMENTDATA : Cell) (mr : Addr) (h0 : Heap) (n0 : Nat) (Z0 : n0 ≤ h0.size) (S_DEFAULTCAPACITY_EMPTY_ELEMENTDATA : Sta Z h0 "java/util/ArrayList" "DEFAULTCAPACITY_EMPTY_ELEMENTDATA" "[Ljava/lang/Object;" (.ref u_DEFAULTCAPACITY_EMPTY_ELEMENTDATA)) (V_u_DEFAULTCAPACITY_EMPTY_ELEMENTDATA : Arv Z h0 u_DEFAULTCAPACITY_EMPTY_ELEMENTDATA cl_u_DEFAULTCAPACITY_EMPTY_ELEMENTDATA.cls (.object "java/lang/Object") (0 : Int32) [] .null) (E_u_DEFAULTCAPACITY_EMPTY_ELEMENTDATA : Exa Z h0 u_DEFAULTCAPACITY_EMPTY_ELEMENTDATA "[Ljava/lang/Object;") (AEr : Exa Z h0 ra "com/example/batchrake/batchrake/DeleteReport") (AFf : Fld Z h0 ra "com/example/batchrake/batchrake/DeleteReport" "failures" "Ljava/util/List;" (.ref la)) (AFd : Fld Z h0 ra "com/example/batchrake/batchrake/DeleteReport" "deleted" "I" (.int da)) (AFn : Fld Z h0 ra "com/example/batchrake/batchrake/DeleteReport" "notFound" "I" (.int na)) (AEl : Exa Z h0 la "java/util/ArrayList") (AFm : Fld Z h0 la "java/util/AbstractList" "modCount" "I" (.int ma)) (AFz : Fld Z h0 la "java/util/ArrayList" "size" "I" (.int ks)) (AFe : Fld Z h0 la "java/util/ArrayList" "elementData" "[Ljava/lang/Object;" (.ref ea)) (AVe : Arv Z h0 ea ka (.object "java/lang/Object") (10 : Int32) va .null) (AEd : Exa Z h0 ea "[Ljava/lang/Object;") (BEr : Exa Z h0 rb "com/example/batchrake/batchrake/DeleteReport") (BFf : Fld Z h0 rb "com/example/batchrake/batchrake/DeleteReport" "failures" "Ljava/util/List;" (.ref lb)) (BFd : Fld Z h0 rb "com/example/batchrake/batchrake/DeleteReport" "deleted" "I" (.int db)) (BFn : Fld Z h0 rb "com/example/batchrake/batchrake/DeleteReport" "notFound" "I" (.int nb)) (BEl : Exa Z h0 lb "java/util/ArrayList") (BFm : Fld Z h0 lb "java/util/AbstractList" "modCount" "I" (.int mb)) (BFz : Fld Z h0 lb "java/util/ArrayList" "size" "I" (.int (1 : Int32))) (BFe : Fld Z h0 lb "java/util/ArrayList" "elementData" "[Ljava/lang/Object;" (.ref eb)) (BVe : Arv Z h0 eb kb (.object "java/lang/Object") (10 : Int32) [(.ref bx0), .null, .null, .null, .null, .null, .null, .null, .null, .null] .null) (BEd : Exa Z h0 eb "[Ljava/lang/Object;") (BEbx0 : Exa Z h0 bx0 "com/example/batchrake/batchrake/DeleteReport$Failure") (hmir : Mir Z "[Ljava/lang/Object;" mr) (hnd : u_DEFAULTCAPACITY_EMPTY_ELEMENTDATA ≠ la) (hovA : Ovr Z ka "java/lang/Object") (hne : ea ≠ la) (hks : ks = (1 : Int32) ∨ ks = (2 : Int32)) (hva : va.length = 10) (hr_la : la ≠ ra) (hr_ea : ea ≠ ra) (hr_rb : rb ≠ ra) (hr_lb : lb ≠ ra) (hr_eb : eb ≠ ra) (hr_u_DEFAULTCAPACITY_EMPTY_ELEMENTDATA : u_DEFAULTCAPACITY_EMPTY_ELEMENTDATA ≠ ra) (g_ra : n0 ≤ ra) (g_la : n0 ≤ la) (g_ea : n0 ≤ ea) :
    MetFree l (⟨"com/example/batchrake/batchrake/DeleteReport", "add", "(Lcom/example/batchrake/batchrake/DeleteReport;)V"⟩ : MethodName) (head1 (Jvm.Cond.code (⟨"com/example/batchrake/batchrake/DeleteReport", "add", "(Lcom/example/batchrake/batchrake/DeleteReport;)V"⟩ : MethodName) prog_1_method_5_code 2 none :: ws) ({ frames := 5, cells := 1, slots := 1, locals := 97 } : Room)) (fun a U => a = #[(.ref ra), (.ref rb)] ∧ Z.Warmed39 U.vm ∧ U.heap = h0) (fun _ _ _ _ _ => True) (fun _ U o U' => ∃ v L, o = .returned v ∧ Q38 Z ra rb la da na ma ea ka ks va lb db nb mb eb kb bx0 u_DEFAULTCAPACITY_EMPTY_ELEMENTDATA cl_u_DEFAULTCAPACITY_EMPTY_ELEMENTDATA mr h0 n0 v U'.heap L ∧ FrameEnd U o U' L ({ frames := 5, cells := 1, slots := 1, locals := 97 } : Room).cells ({ frames := 5, cells := 1, slots := 1, locals := 97 } : Room).slots) := by
  refine MetFree.of_bodySF (plainFor_of_name pn_3) hisR ?_
  intro p e s m args below meth c s₁ Bd hml0 hP hK
  obtain ⟨rfl, hZ, hh⟩ := hP
  have hx := Bd.exec
  have hby := Bd.bytes
  have hml : c.maxLocals = 2 := hml0
  have hown : s.vm.findClass "com/example/batchrake/batchrake/DeleteReport" = some m.cls := findClass_of_methodNamed Bd.named
  have hnm := (name_of_methodNamed Bd.named Bd.method).1
  have X0 : Stand p l e ({ frames := 5, cells := 1, slots := 1, locals := 97 } : Room) s m #[(.ref ra), (.ref rb)] below meth c s₁ [] 0 0 := Stand.of_body Bd
  have e0 : s₁.heap = h0 := by rw [← hh, Bd.state]; rfl
  have N0 := Fr.nil n0
  have pre0 : ∀ t, Steps p.tables e below (s₁.setTop (mkF m 0 #[.val (.ref ra), .val (.ref rb)] [])) t → Steps p.tables e below (s₁.setTop (entryFrame m #[(.ref ra), (.ref rb)] 2)) t := fun t k => castTop (ef_38 m ra rb) k
  obtain ⟨T1, X1, e1, st1⟩ := getF X0 hx hZ hown (host := "") (Or.inl (wd hw 97 rfl)) Via.refl e0 AFd (g := (mkF m 2 #[.val (.ref ra), .val (.ref rb)] [(.ref ra), (.ref ra)])) rfl rfl (hb hby d38_2)
  obtain ⟨T2, X2, e2, st2⟩ := getF X1 hx hZ hown (host := "") (Or.inl (wd hw 97 rfl)) Via.refl e1 BFd (g := (mkF m 6 #[.val (.ref ra), .val (.ref rb)] [(.ref rb), (.int da), (.ref ra)])) rfl rfl (hb hby d38_6)
  obtain ⟨T3, h3, X3, e3, W3, st3⟩ := putF X2 hx hZ hown (host := "") (Or.inl (wd hw 97 rfl)) Via.refl e2 AFd AEr (Or.inl (wd hw 98 rfl)) (wd hw 2 rfl) (ty := .int) (by decide) rfl rfl (g := (mkF m 10 #[.val (.ref ra), .val (.ref rb)] [(.int (da + db)), (.ref ra)])) rfl rfl (hb hby d38_10)
  have Fw3 : Fld Z h3 ra "com/example/batchrake/batchrake/DeleteReport" "deleted" "I" (.int (da + db)) := AFd.same W3
  have F4 := S_DEFAULTCAPACITY_EMPTY_ELEMENTDATA.wr W3
  have F5 := V_u_DEFAULTCAPACITY_EMPTY_ELEMENTDATA.other W3 hr_u_DEFAULTCAPACITY_EMPTY_ELEMENTDATA
  have F6 := E_u_DEFAULTCAPACITY_EMPTY_ELEMENTDATA.wr W3
  have F7 := AEr.wr W3
  have F8 := AFf.other W3 (Or.inr (slot_ne (Or.inr (wd hw 46 rfl)) (Or.inl (wd hw 98 rfl)) (by decide) (t := (.object "java/util/List")) (t' := .int) (by decide) (by decide)))
  have F10 := AFn.other W3 (Or.inr (slot_ne (Or.inl (wd hw 155 rfl)) (Or.inl (wd hw 98 rfl)) (by decide) (t := .int) (t' := .int) (by decide) (by decide)))
  have F11 := AEl.wr W3
  have F12 := AFm.other W3 (Or.inl hr_la)
  have F13 := AFz.other W3 (Or.inl hr_la)
  have F14 := AFe.other W3 (Or.inl hr_la)
  have F15 := AVe.other W3 hr_ea
  have F16 := AEd.wr W3
  have F17 := BEr.wr W3
  have F18 := BFf.other W3 (Or.inl hr_rb)
  have F19 := BFd.other W3 (Or.inl hr_rb)
  have F20 := BFn.other W3 (Or.inl hr_rb)
  have F21 := BEl.wr W3
  have F22 := BFm.other W3 (Or.inl hr_lb)
  have F23 := BFz.other W3 (Or.inl hr_lb)
  have F24 := BFe.other W3 (Or.inl hr_lb)
  have F25 := BVe.other W3 hr_eb
  have F26 := BEd.wr W3
  have F27 := BEbx0.wr W3
  have N3 := Fr.snoc X3 N0 g_ra
  have K3 : Keep h0 h3 [ra, la, ea] := (Keep.refl h0 [ra, la, ea]).wr W3 (Or.inl (List.mem_of_getElem? (i := 0) rfl))
  have Zs3 : n0 ≤ h3.size := by rw [W3.size]; exact Z0
  obtain ⟨T28, X28, e28, st28⟩ := getF X3 hx hZ hown (host := "") (Or.inl (wd hw 154 rfl)) Via.refl e3 F10 (g := (mkF m 15 #[.val (.ref ra), .val (.ref rb)] [(.ref ra), (.ref ra)])) rfl rfl (hb hby d38_15)
  obtain ⟨T29, X29, e29, st29⟩ := getF X28 hx hZ hown (host := "") (Or.inl (wd hw 154 rfl)) Via.refl e28 F20 (g := (mkF m 19 #[.val (.ref ra), .val (.ref rb)] [(.ref rb), (.int na), (.ref ra)])) rfl rfl (hb hby d38_19)
  obtain ⟨T30, h30, X30, e30, W30, st30⟩ := putF X29 hx hZ hown (host := "") (Or.inl (wd hw 154 rfl)) Via.refl e29 F10 F7 (Or.inl (wd hw 155 rfl)) (wd hw 2 rfl) (ty := .int) (by decide) rfl rfl (g := (mkF m 23 #[.val (.ref ra), .val (.ref rb)] [(.int (na + nb)), (.ref ra)])) rfl rfl (hb hby d38_23)
  have Fw30 : Fld Z h30 ra "com/example/batchrake/batchrake/DeleteReport" "notFound" "I" (.int (na + nb)) := F10.same W30
  have F31 := F4.wr W30
  have F32 := F5.other W30 hr_u_DEFAULTCAPACITY_EMPTY_ELEMENTDATA
  have F33 := F6.wr W30
  have F34 := F7.wr W30
  have F35 := F8.other W30 (Or.inr (slot_ne (Or.inr (wd hw 46 rfl)) (Or.inl (wd hw 155 rfl)) (by decide) (t := (.object "java/util/List")) (t' := .int) (by decide) (by decide)))
  have F37 := F11.wr W30
  have F38 := F12.other W30 (Or.inl hr_la)
  have F39 := F13.other W30 (Or.inl hr_la)
  have F40 := F14.other W30 (Or.inl hr_la)
  have F41 := F15.other W30 hr_ea
  have F42 := F16.wr W30
  have F43 := F17.wr W30
  have F44 := F18.other W30 (Or.inl hr_rb)
  have F45 := F19.other W30 (Or.inl hr_rb)
  have F46 := F20.other W30 (Or.inl hr_rb)
  have F47 := F21.wr W30
  have F48 := F22.other W30 (Or.inl hr_lb)
  have F49 := F23.other W30 (Or.inl hr_lb)
  have F50 := F24.other W30 (Or.inl hr_lb)
  have F51 := F25.other W30 hr_eb
  have F52 := F26.wr W30
  have F53 := F27.wr W30
  have F54 := Fw3.other W30 (Or.inr (slot_ne (Or.inl (wd hw 98 rfl)) (Or.inl (wd hw 155 rfl)) (by decide) (t := .int) (t' := .int) (by decide) (by decide)))
  have N30 := Fr.snoc X30 N3 g_ra
  have K30 : Keep h0 h30 [ra, la, ea] := K3.wr W30 (Or.inl (List.mem_of_getElem? (i := 0) rfl))
  have Zs30 : n0 ≤ h30.size := by rw [W30.size]; exact Zs3
  obtain ⟨T55, X55, e55, st55⟩ := getF X30 hx hZ hown (host := "") (Or.inl (wd hw 45 rfl)) Via.refl e30 F35 (g := (mkF m 27 #[.val (.ref ra), .val (.ref rb)] [(.ref ra)])) rfl rfl (hb hby d38_27)
  obtain ⟨T56, X56, e56, st56⟩ := getF X55 hx hZ hown (host := "") (Or.inl (wd hw 45 rfl)) Via.refl e55 F44 (g := (mkF m 31 #[.val (.ref ra), .val (.ref rb)] [(.ref rb), (.ref la)])) rfl rfl (hb hby d38_31)
  obtain ⟨cq57, kq57, q57a, q57b, q57c⟩ := isOf hZ e56 F37
  obtain ⟨_, _, ⟨T57, L57, k57, n57⟩, -, X57, ⟨Lc57, hQ57, l57, y57, z57⟩, st57⟩ := X56.interfaceBack hx (xi := (⟨"java/util/List", "addAll", "(Ljava/util/Collection;)Z"⟩ : MethodName)) (y := (⟨"java/util/ArrayList", "addAll", "(Ljava/util/Collection;)Z"⟩ : MethodName)) hown (mvT hZ (wd hw 156 rfl)) (mvT hZ (wd hw 157 rfl)) (mvT hZ (wd hw 158 rfl)) (mvT hZ (wd hw 159 rfl)) (mvT hZ (wd hw 160 rfl)) (mvT hZ (wd hw 161 rfl)) (mvT hZ (wd hw 162 rfl)) (mvT hZ (wd hw 119 rfl)) (by decide) (backOf (W := 0) (rm37 l Z a0 hw [] la lb ma ea ka ks va mb eb kb bx0 u_DEFAULTCAPACITY_EMPTY_ELEMENTDATA cl_u_DEFAULTCAPACITY_EMPTY_ELEMENTDATA mr h30 n0 Zs30 F31 F32 F33 F37 F38 F39 F40 F41 F42 F47 F48 F49 F50 F51 F52 F53 hmir hnd hovA hne hks hva g_la g_ea) hZ (wd hw 163 rfl) (wd hw 23 rfl) (by decide) (by decide)) q57a q57b q57c (g := (mkF m 34 #[.val (.ref ra), .val (.ref rb)] [(.ref lb), (.ref la)])) rfl (by rw [hml]; rfl) (Steps.refl _) (argsL := [(.ref lb)]) (rest := []) (lenOf pd_12 rfl) rfl (by show 2 * 0 + _ ≤ _; exact Nat.le_of_eq rfl) (hb hby d38_34) (fun _ _ => ⟨rfl, e56, (by decide : 0 + 1 ≤ _), (by decide : 0 + 1 ≤ _)⟩)
  dsimp only [Pt.U, Pt.locs, Pt.cells, Pt.slots] at X57 l57 y57 z57 st57 hQ57
  rw [l57, y57, z57] at X57
  obtain ⟨rfl, N57q, Kc57, G57_0, G57_1⟩ := hQ57
  have Zs57 : n0 ≤ T57.heap.size := Nat.le_trans Zs30 Kc57.1
  have K57 : Keep h0 T57.heap [ra, la, ea] := K30.trans Kc57 (allS (Or.inl (List.mem_of_getElem? (i := 1) rfl)) (allS (Or.inl (List.mem_of_getElem? (i := 2) rfl)) all0))
  have F58 := own_stakeep F31 Kc57 (allS (own_nsE F37) (allS (own_nsE F42) all0))
  have F60 := F33.keep Kc57
  have F61 := F34.keep Kc57
  have F62 := F35.keep Kc57 (ninS (Ne.symm hr_la) (ninS (Ne.symm hr_ea) nin0))
  have F66 := F42.keep Kc57
  have F67 := F43.keep Kc57
  have F71 := F47.keep Kc57
  have F76 := F52.keep Kc57
  have F77 := F53.keep Kc57
  have F78 := F54.keep Kc57 (ninS (Ne.symm hr_la) (ninS (Ne.symm hr_ea) nin0))
  have F79 := Fw30.keep Kc57 (ninS (Ne.symm hr_la) (ninS (Ne.symm hr_ea) nin0))
  have N57 := Fr.app N30 N57q
  have k80 : ∀ t, Steps p.tables e below (T57.setTop (mkF m 40 #[.val (.ref ra), .val (.ref rb)] [])) t → Steps p.tables e below (s₁.setTop (entryFrame m #[(.ref ra), (.ref rb)] 2)) t := by
    intro t k
    refine pre0 t ?_
    refine XS.aloadN X0.here hx rfl (hb hby d38_0) rfl rfl ?_
    refine XS.dup X0.here hx rfl (hb hby d38_1) rfl rfl ?_
    refine st1 _ ?_
    refine XS.aloadN X1.here hx rfl (hb hby d38_5) rfl rfl ?_
    refine st2 _ ?_
    refine XS.iadd X2.here hx rfl (hb hby d38_9) rfl ?_
    refine st3 _ ?_
    refine XS.aloadN X3.here hx rfl (hb hby d38_13) rfl rfl ?_
    refine XS.dup X3.here hx rfl (hb hby d38_14) rfl rfl ?_
    refine st28 _ ?_
    refine XS.aloadN X28.here hx rfl (hb hby d38_18) rfl rfl ?_
    refine st29 _ ?_
    refine XS.iadd X29.here hx rfl (hb hby d38_22) rfl ?_
    show Steps p.tables e below (T29.setTop (mkF m 23 #[.val (.ref ra), .val (.ref rb)] [(.int (na + nb)), (.ref ra)])) _
    refine st30 _ ?_
    refine XS.aloadN X30.here hx rfl (hb hby d38_26) rfl rfl ?_
    refine st55 _ ?_
    refine XS.aloadN X55.here hx rfl (hb hby d38_30) rfl rfl ?_
    refine st56 _ ?_
    refine st57.trans ?_
    refine XS.pop X57.here hx rfl (hb hby d38_39) rfl rfl ?_
    exact k
  obtain ⟨fs, hr, hrun, hended, hW, hsame⟩ := X57.leave (v := none) (fun _ => rfl)
  refine ⟨_, _, k80 _ ?_, hrun, hended, _, _, rfl, ?_, ⟨_, rfl⟩, hW, hsame.mono (by decide) (by decide)⟩
  · exact X57.returnOut hx Bd.returns (hb hby d38_40) hr
  · show Q38 Z ra rb la da na ma ea ka ks va lb db nb mb eb kb bx0 u_DEFAULTCAPACITY_EMPTY_ELEMENTDATA cl_u_DEFAULTCAPACITY_EMPTY_ELEMENTDATA mr h0 n0 _ T57.heap _
    exact ⟨rfl, N57, K57, F61, F62, G57_0, G57_1⟩
theorem pd_13 : parseMethodDescriptor "()I" = some ⟨[], some .int⟩ := by decide +kernel
theorem d39_0 : decode prog_1_method_4_code 0 = .ok (.getstatic 28, 3) := by decide +kernel
theorem d39_3 : decode prog_1_method_4_code 3 = .ok (.aload_n 2, 1) := by decide +kernel
theorem d39_4 : decode prog_1_method_4_code 4 = .ok (.invokevirtual 34, 3) := by decide +kernel
theorem d39_7 : decode prog_1_method_4_code 7 = .ok (.iaload, 1) := by decide +kernel
theorem d39_8 : decode prog_1_method_4_code 8 = .ok (.lookupswitch 54 #[(1, 28), (2, 41)], 28) := by decide +kernel
theorem d39_36 : decode prog_1_method_4_code 36 = .ok (.aload_n 0, 1) := by decide +kernel
theorem d39_37 : decode prog_1_method_4_code 37 = .ok (.dup, 1) := by decide +kernel
theorem d39_38 : decode prog_1_method_4_code 38 = .ok (.getfield 40, 3) := by decide +kernel
theorem d39_41 : decode prog_1_method_4_code 41 = .ok (.iconst 1, 1) := by decide +kernel
theorem d39_42 : decode prog_1_method_4_code 42 = .ok (.iadd, 1) := by decide +kernel
theorem d39_43 : decode prog_1_method_4_code 43 = .ok (.putfield 40, 3) := by decide +kernel
theorem d39_46 : decode prog_1_method_4_code 46 = .ok (.goto 35, 3) := by decide +kernel
theorem d39_49 : decode prog_1_method_4_code 49 = .ok (.aload_n 0, 1) := by decide +kernel
theorem d39_50 : decode prog_1_method_4_code 50 = .ok (.dup, 1) := by decide +kernel
theorem d39_51 : decode prog_1_method_4_code 51 = .ok (.getfield 44, 3) := by decide +kernel
theorem d39_54 : decode prog_1_method_4_code 54 = .ok (.iconst 1, 1) := by decide +kernel
theorem d39_55 : decode prog_1_method_4_code 55 = .ok (.iadd, 1) := by decide +kernel
theorem d39_56 : decode prog_1_method_4_code 56 = .ok (.putfield 44, 3) := by decide +kernel
theorem d39_59 : decode prog_1_method_4_code 59 = .ok (.goto 22, 3) := by decide +kernel
theorem d39_81 : decode prog_1_method_4_code 81 = .ok (.return_, 1) := by decide +kernel
theorem ef_39 (m : MethodId) (a39_0 : Addr) (a39_1 : Addr) (a39_2 : Addr) : entryFrame m #[(.ref a39_0), (.ref a39_1), (.ref a39_2)] 3 = mkF m 0 #[.val (.ref a39_0), .val (.ref a39_1), .val (.ref a39_2)] [] := by first | (simp [entryFrame, mkF, argsToLocals, Value.category]; done) | rfl
def Q39 (Z : State) (a39_0 : Addr) (a39_1 : Addr) (a39_2 : Addr) (u__SwitchMap_com_example_batchrake_batchrake_Outcome : Addr) (cl_u__SwitchMap_com_example_batchrake_batchrake_Outcome : Cell) (dd : Int32) (nn : Int32) (ll : Addr) (od : Int32) (h0 : Heap) (n0 : Nat) (v : Option Value) (h : Heap) (L : List Loc) : Prop := ∃ d2 : Int32, ∃ n2 : Int32, v = none ∧ Fr n0 L ∧ Keep h0 h [a39_0] ∧ Exa Z h a39_0 "com/example/batchrake/batchrake/DeleteReport" ∧ Fld Z h a39_0 "com/example/batchrake/batchrake/DeleteReport" "failures" "Ljava/util/List;" (.ref ll) ∧ Fld Z h a39_0 "com/example/batchrake/batchrake/DeleteReport" "deleted" "I" (.int d2) ∧ Fld Z h a39_0 "com/example/batchrake/batchrake/DeleteReport" "notFound" "I" (.int n2)
set_option maxRecDepth 65536 in
set_option maxHeartbeats 40000000 in
theorem rm39 (l : Launch) (Z : State) (a0 : Array Value) (hw : ∀ d ∈ tables_1, d.before a0 Z = true) (ws : List Jvm.Cond) (a39_0 : Addr) (a39_1 : Addr) (a39_2 : Addr) (u__SwitchMap_com_example_batchrake_batchrake_Outcome : Addr) (cl_u__SwitchMap_com_example_batchrake_batchrake_Outcome : Cell) (dd : Int32) (nn : Int32) (ll : Addr) (od : Int32) (h0 : Heap) (n0 : Nat) (Z0 : n0 ≤ h0.size) (S__SwitchMap_com_example_batchrake_batchrake_Outcome : Sta Z h0 "com/example/batchrake/batchrake/DeleteReport$1" "$SwitchMap$com$example$batchrake$batchrake$Outcome" "[I" (.ref u__SwitchMap_com_example_batchrake_batchrake_Outcome)) (V_u__SwitchMap_com_example_batchrake_batchrake_Outcome : Arv Z h0 u__SwitchMap_com_example_batchrake_batchrake_Outcome cl_u__SwitchMap_com_example_batchrake_batchrake_Outcome.cls .int (5 : Int32) [(.int (1 : Int32)), (.int (2 : Int32)), (.int (0 : Int32)), (.int (0 : Int32)), (.int (0 : Int32))] (.int (0 : Int32))) (Er : Exa Z h0 a39_0 "com/example/batchrake/batchrake/DeleteReport") (Ff : Fld Z h0 a39_0 "com/example/batchrake/batchrake/DeleteReport" "failures" "Ljava/util/List;" (.ref ll)) (Fd : Fld Z h0 a39_0 "com/example/batchrake/batchrake/DeleteReport" "deleted" "I" (.int dd)) (Fn : Fld Z h0 a39_0 "com/example/batchrake/batchrake/DeleteReport" "notFound" "I" (.int nn)) (Eo : Exa Z h0 a39_2 "com/example/batchrake/batchrake/Outcome") (Fo : Fld Z h0 a39_2 "java/lang/Enum" "ordinal" "I" (.int od)) (hg : od = (0 : Int32) ∨ od = (1 : Int32)) (g_a39_0 : n0 ≤ a39_0) :
    MetFree l (⟨"com/example/batchrake/batchrake/DeleteReport", "add", "(Ljava/lang/String;Lcom/example/batchrake/batchrake/Outcome;)V"⟩ : MethodName) (head1 (Jvm.Cond.code (⟨"com/example/batchrake/batchrake/DeleteReport", "add", "(Ljava/lang/String;Lcom/example/batchrake/batchrake/Outcome;)V"⟩ : MethodName) prog_1_method_4_code 3 none :: ws) ({ frames := 1, cells := 0, slots := 0, locals := 13 } : Room)) (fun a U => a = #[(.ref a39_0), (.ref a39_1), (.ref a39_2)] ∧ Z.Warmed39 U.vm ∧ U.heap = h0) (fun _ _ _ _ _ => True) (fun _ U o U' => ∃ v L, o = .returned v ∧ Q39 Z a39_0 a39_1 a39_2 u__SwitchMap_com_example_batchrake_batchrake_Outcome cl_u__SwitchMap_com_example_batchrake_batchrake_Outcome dd nn ll od h0 n0 v U'.heap L ∧ FrameEnd U o U' L ({ frames := 1, cells := 0, slots := 0, locals := 13 } : Room).cells ({ frames := 1, cells := 0, slots := 0, locals := 13 } : Room).slots) := by
  refine MetFree.of_bodySF (plainFor_of_name pn_3) hisR ?_
  intro p e s m args below meth c s₁ Bd hml0 hP hK
  obtain ⟨rfl, hZ, hh⟩ := hP
  have hx := Bd.exec
  have hby := Bd.bytes
  have hml : c.maxLocals = 3 := hml0
  have hown : s.vm.findClass "com/example/batchrake/batchrake/DeleteReport" = some m.cls := findClass_of_methodNamed Bd.named
  have hnm := (name_of_methodNamed Bd.named Bd.method).1
  have X0 : Stand p l e ({ frames := 1, cells := 0, slots := 0, locals := 13 } : Room) s m #[(.ref a39_0), (.ref a39_1), (.ref a39_2)] below meth c s₁ [] 0 0 := Stand.of_body Bd
  have e0 : s₁.heap = h0 := by rw [← hh, Bd.state]; rfl
  have N0 := Fr.nil n0
  have pre0 : ∀ t, Steps p.tables e below (s₁.setTop (mkF m 0 #[.val (.ref a39_0), .val (.ref a39_1), .val (.ref a39_2)] [])) t → Steps p.tables e below (s₁.setTop (entryFrame m #[(.ref a39_0), (.ref a39_1), (.ref a39_2)] 3)) t := fun t k => castTop (ef_39 m a39_0 a39_1 a39_2) k
  rcases hg with rfl | rfl
  · skip
    obtain ⟨T1, X1, e1, st1⟩ := getS2 X0 hx hZ hown (host := "") (Or.inl (wd hw 85 rfl)) Via.refl e0 S__SwitchMap_com_example_batchrake_batchrake_Outcome (g := (mkF m 0 #[.val (.ref a39_0), .val (.ref a39_1), .val (.ref a39_2)] [])) rfl (hb hby d39_0)
    obtain ⟨cq2, kq2, q2a, q2b, q2c⟩ := isOf hZ e1 Eo
    obtain ⟨_, _, ⟨T2, L2, k2, n2⟩, -, X2, ⟨Lc2, hQ2, l2, y2, z2⟩, st2⟩ := X1.virtualBackUp hx (x := (⟨"com/example/batchrake/batchrake/Outcome", "ordinal", "()I"⟩ : MethodName)) (y := (⟨"java/lang/Enum", "ordinal", "()I"⟩ : MethodName)) (owner := "java/lang/Enum") hown (mvT hZ (wd hw 88 rfl)) (mvT hZ (wd hw 89 rfl)) (mvT hZ (wd hw 90 rfl)) (by decide) (mvT hZ (wd hw 92 rfl)) (mvT hZ (wd hw 91 rfl)) (backOf (W := 1) (rm14 l Z a0 hw [] a39_2 (0 : Int32) h0 n0 Z0 Fo) hZ (wd hw 94 rfl) (wd hw 93 rfl) (by decide) (by decide)) q2a q2c (g := (mkF m 4 #[.val (.ref a39_0), .val (.ref a39_1), .val (.ref a39_2)] [(.ref a39_2), (.ref u__SwitchMap_com_example_batchrake_batchrake_Outcome)])) rfl (by rw [hml]; rfl) (Steps.refl _) (argsL := []) (rest := [(.ref u__SwitchMap_com_example_batchrake_batchrake_Outcome)]) (lenOf pd_13 rfl) rfl (by show 2 * 0 + _ ≤ _; exact Nat.le_of_eq rfl) (hb hby d39_4) (fun _ _ => ⟨rfl, e1, (by decide : 0 + 0 ≤ _), (by decide : 0 + 0 ≤ _)⟩)
    dsimp only [Pt.U, Pt.locs, Pt.cells, Pt.slots] at X2 l2 y2 z2 st2 hQ2
    rw [l2, y2, z2] at X2
    obtain ⟨rfl, N2q, eh2⟩ := hQ2
    have N2 := Fr.app N0 N2q
    obtain ⟨cl3, Ar3, qc3, Sz3, Nn3, Hh3, Gg3⟩ := (id V_u__SwitchMap_com_example_batchrake_batchrake_Outcome)
    have hin3 : ¬ ((0 : Int32) < 0 ∨ cl3.slots.size ≤ ((0 : Int32)).toNatClampNeg) := inb_of Sz3 ⟨by decide, by decide⟩
    obtain ⟨T4, X4, e4, st4⟩ := getF X2 hx hZ hown (host := "") (Or.inl (wd hw 97 rfl)) Via.refl eh2 Fd (g := (mkF m 38 #[.val (.ref a39_0), .val (.ref a39_1), .val (.ref a39_2)] [(.ref a39_0), (.ref a39_0)])) rfl rfl (hb hby d39_38)
    obtain ⟨T5, h5, X5, e5, W5, st5⟩ := putF X4 hx hZ hown (host := "") (Or.inl (wd hw 97 rfl)) Via.refl e4 Fd Er (Or.inl (wd hw 98 rfl)) (wd hw 2 rfl) (ty := .int) (by decide) rfl rfl (g := (mkF m 43 #[.val (.ref a39_0), .val (.ref a39_1), .val (.ref a39_2)] [(.int (dd + (1 : Int32))), (.ref a39_0)])) rfl rfl (hb hby d39_43)
    have Fw5 : Fld Z h5 a39_0 "com/example/batchrake/batchrake/DeleteReport" "deleted" "I" (.int (dd + (1 : Int32))) := Fd.same W5
    have F6 := S__SwitchMap_com_example_batchrake_batchrake_Outcome.wr W5
    have F8 := Er.wr W5
    have F9 := Ff.other W5 (Or.inr (slot_ne (Or.inr (wd hw 46 rfl)) (Or.inl (wd hw 98 rfl)) (by decide) (t := (.object "java/util/List")) (t' := .int) (by decide) (by decide)))
    have F11 := Fn.other W5 (Or.inr (slot_ne (Or.inl (wd hw 155 rfl)) (Or.inl (wd hw 98 rfl)) (by decide) (t := .int) (t' := .int) (by decide) (by decide)))
    have F12 := Eo.wr W5
    have N5 := Fr.snoc X5 N2 g_a39_0
    have K5 : Keep h0 h5 [a39_0] := (Keep.refl h0 [a39_0]).wr W5 (Or.inl (List.mem_of_getElem? (i := 0) rfl))
    have Zs5 : n0 ≤ h5.size := by rw [W5.size]; exact Z0
    have k14 : ∀ t, Steps p.tables e below (T5.setTop (mkF m 81 #[.val (.ref a39_0), .val (.ref a39_1), .val (.ref a39_2)] [])) t → Steps p.tables e below (s₁.setTop (entryFrame m #[(.ref a39_0), (.ref a39_1), (.ref a39_2)] 3)) t := by
      intro t k
      refine pre0 t ?_
      refine st1 _ ?_
      refine XS.aloadN X1.here hx rfl (hb hby d39_3) rfl rfl ?_
      refine st2.trans ?_
      refine X2.iaload hx (j := (0 : Int32)) (v := (.int (1 : Int32))) (by rw [eh2]; exact Ar3.1) (State.isArrayOf_alike hZ.alike Ar3.2.1) Ar3.2.2 hin3 (Hh3.at hin3 rfl) (g := (mkF m 7 #[.val (.ref a39_0), .val (.ref a39_1), .val (.ref a39_2)] [(.int (0 : Int32)), (.ref u__SwitchMap_com_example_batchrake_batchrake_Outcome)])) rfl rfl (hb hby d39_7) _ ?_
      refine own_lsw X2.here hx rfl (pc0 := 8) (pc' := 36) rfl (hb hby d39_8) rfl (by decide) rfl (by decide) (by decide) ?_
      refine XS.aloadN X2.here hx rfl (hb hby d39_36) rfl rfl ?_
      refine XS.dup X2.here hx rfl (hb hby d39_37) rfl rfl ?_
      refine st4 _ ?_
      refine XS.iconst X4.here hx rfl (hb hby d39_41) ?_
      refine XS.iadd X4.here hx rfl (hb hby d39_42) rfl ?_
      refine st5 _ ?_
      refine XS.goto X5.here hx rfl (pc0 := 46) (pc' := 81) rfl (hb hby d39_46) (by decide) (by decide) ?_
      exact k
    obtain ⟨fs, hr, hrun, hended, hW, hsame⟩ := X5.leave (v := none) (fun _ => rfl)
    refine ⟨_, _, k14 _ ?_, hrun, hended, _, _, rfl, ?_, ⟨_, rfl⟩, hW, hsame.mono (by decide) (by decide)⟩
    · exact X5.returnOut hx Bd.returns (hb hby d39_81) hr
    · show Q39 Z a39_0 a39_1 a39_2 u__SwitchMap_com_example_batchrake_batchrake_Outcome cl_u__SwitchMap_com_example_batchrake_batchrake_Outcome dd nn ll (0 : Int32) h0 n0 _ T5.heap _
      rw [e5]
      exact ⟨(dd + (1 : Int32)), nn, rfl, N5, K5, F8, F9, Fw5, F11⟩
  · skip
    obtain ⟨T15, X15, e15, st15⟩ := getS2 X0 hx hZ hown (host := "") (Or.inl (wd hw 85 rfl)) Via.refl e0 S__SwitchMap_com_example_batchrake_batchrake_Outcome (g := (mkF m 0 #[.val (.ref a39_0), .val (.ref a39_1), .val (.ref a39_2)] [])) rfl (hb hby d39_0)
    obtain ⟨cq16, kq16, q16a, q16b, q16c⟩ := isOf hZ e15 Eo
    obtain ⟨_, _, ⟨T16, L16, k16, n16⟩, -, X16, ⟨Lc16, hQ16, l16, y16, z16⟩, st16⟩ := X15.virtualBackUp hx (x := (⟨"com/example/batchrake/batchrake/Outcome", "ordinal", "()I"⟩ : MethodName)) (y := (⟨"java/lang/Enum", "ordinal", "()I"⟩ : MethodName)) (owner := "java/lang/Enum") hown (mvT hZ (wd hw 88 rfl)) (mvT hZ (wd hw 89 rfl)) (mvT hZ (wd hw 90 rfl)) (by decide) (mvT hZ (wd hw 92 rfl)) (mvT hZ (wd hw 91 rfl)) (backOf (W := 1) (rm14 l Z a0 hw [] a39_2 (1 : Int32) h0 n0 Z0 Fo) hZ (wd hw 94 rfl) (wd hw 93 rfl) (by decide) (by decide)) q16a q16c (g := (mkF m 4 #[.val (.ref a39_0), .val (.ref a39_1), .val (.ref a39_2)] [(.ref a39_2), (.ref u__SwitchMap_com_example_batchrake_batchrake_Outcome)])) rfl (by rw [hml]; rfl) (Steps.refl _) (argsL := []) (rest := [(.ref u__SwitchMap_com_example_batchrake_batchrake_Outcome)]) (lenOf pd_13 rfl) rfl (by show 2 * 0 + _ ≤ _; exact Nat.le_of_eq rfl) (hb hby d39_4) (fun _ _ => ⟨rfl, e15, (by decide : 0 + 0 ≤ _), (by decide : 0 + 0 ≤ _)⟩)
    dsimp only [Pt.U, Pt.locs, Pt.cells, Pt.slots] at X16 l16 y16 z16 st16 hQ16
    rw [l16, y16, z16] at X16
    obtain ⟨rfl, N16q, eh16⟩ := hQ16
    have N16 := Fr.app N0 N16q
    obtain ⟨cl17, Ar17, qc17, Sz17, Nn17, Hh17, Gg17⟩ := (id V_u__SwitchMap_com_example_batchrake_batchrake_Outcome)
    have hin17 : ¬ ((1 : Int32) < 0 ∨ cl17.slots.size ≤ ((1 : Int32)).toNatClampNeg) := inb_of Sz17 ⟨by decide, by decide⟩
    obtain ⟨T18, X18, e18, st18⟩ := getF X16 hx hZ hown (host := "") (Or.inl (wd hw 154 rfl)) Via.refl eh16 Fn (g := (mkF m 51 #[.val (.ref a39_0), .val (.ref a39_1), .val (.ref a39_2)] [(.ref a39_0), (.ref a39_0)])) rfl rfl (hb hby d39_51)
    obtain ⟨T19, h19, X19, e19, W19, st19⟩ := putF X18 hx hZ hown (host := "") (Or.inl (wd hw 154 rfl)) Via.refl e18 Fn Er (Or.inl (wd hw 155 rfl)) (wd hw 2 rfl) (ty := .int) (by decide) rfl rfl (g := (mkF m 56 #[.val (.ref a39_0), .val (.ref a39_1), .val (.ref a39_2)] [(.int (nn + (1 : Int32))), (.ref a39_0)])) rfl rfl (hb hby d39_56)
    have Fw19 : Fld Z h19 a39_0 "com/example/batchrake/batchrake/DeleteReport" "notFound" "I" (.int (nn + (1 : Int32))) := Fn.same W19
    have F20 := S__SwitchMap_com_example_batchrake_batchrake_Outcome.wr W19
    have F22 := Er.wr W19
    have F23 := Ff.other W19 (Or.inr (slot_ne (Or.inr (wd hw 46 rfl)) (Or.inl (wd hw 155 rfl)) (by decide) (t := (.object "java/util/List")) (t' := .int) (by decide) (by decide)))
    have F24 := Fd.other W19 (Or.inr (slot_ne (Or.inl (wd hw 98 rfl)) (Or.inl (wd hw 155 rfl)) (by decide) (t := .int) (t' := .int) (by decide) (by decide)))
    have F26 := Eo.wr W19
    have N19 := Fr.snoc X19 N16 g_a39_0
    have K19 : Keep h0 h19 [a39_0] := (Keep.refl h0 [a39_0]).wr W19 (Or.inl (List.mem_of_getElem? (i := 0) rfl))
    have Zs19 : n0 ≤ h19.size := by rw [W19.size]; exact Z0
    have k28 : ∀ t, Steps p.tables e below (T19.setTop (mkF m 81 #[.val (.ref a39_0), .val (.ref a39_1), .val (.ref a39_2)] [])) t → Steps p.tables e below (s₁.setTop (entryFrame m #[(.ref a39_0), (.ref a39_1), (.ref a39_2)] 3)) t := by
      intro t k
      refine pre0 t ?_
      refine st15 _ ?_
      refine XS.aloadN X15.here hx rfl (hb hby d39_3) rfl rfl ?_
      refine st16.trans ?_
      refine X16.iaload hx (j := (1 : Int32)) (v := (.int (2 : Int32))) (by rw [eh16]; exact Ar17.1) (State.isArrayOf_alike hZ.alike Ar17.2.1) Ar17.2.2 hin17 (Hh17.at hin17 rfl) (g := (mkF m 7 #[.val (.ref a39_0), .val (.ref a39_1), .val (.ref a39_2)] [(.int (1 : Int32)), (.ref u__SwitchMap_com_example_batchrake_batchrake_Outcome)])) rfl rfl (hb hby d39_7) _ ?_
      refine own_lsw X16.here hx rfl (pc0 := 8) (pc' := 49) rfl (hb hby d39_8) rfl (by decide) rfl (by decide) (by decide) ?_
      refine XS.aloadN X16.here hx rfl (hb hby d39_49) rfl rfl ?_
      refine XS.dup X16.here hx rfl (hb hby d39_50) rfl rfl ?_
      refine st18 _ ?_
      refine XS.iconst X18.here hx rfl (hb hby d39_54) ?_
      refine XS.iadd X18.here hx rfl (hb hby d39_55) rfl ?_
      refine st19 _ ?_
      refine XS.goto X19.here hx rfl (pc0 := 59) (pc' := 81) rfl (hb hby d39_59) (by decide) (by decide) ?_
      exact k
    obtain ⟨fs, hr, hrun, hended, hW, hsame⟩ := X19.leave (v := none) (fun _ => rfl)
    refine ⟨_, _, k28 _ ?_, hrun, hended, _, _, rfl, ?_, ⟨_, rfl⟩, hW, hsame.mono (by decide) (by decide)⟩
    · exact X19.returnOut hx Bd.returns (hb hby d39_81) hr
    · show Q39 Z a39_0 a39_1 a39_2 u__SwitchMap_com_example_batchrake_batchrake_Outcome cl_u__SwitchMap_com_example_batchrake_batchrake_Outcome dd nn ll (1 : Int32) h0 n0 _ T19.heap _
      rw [e19]
      exact ⟨dd, (nn + (1 : Int32)), rfl, N19, K19, F22, F23, F24, Fw19⟩
theorem own_map {c : Cell} {j : Int32} {d : Value} (H : Has c [.int 1, .int 2, .int 0, .int 0, .int 0] d) (hin : ¬ (j < 0 ∨ c.slots.size ≤ j.toNatClampNeg)) (h : j = (2 : Int32) ∨ j = (3 : Int32) ∨ j = (4 : Int32)) : c.slots[j.toNatClampNeg]? = some (.int (0 : Int32)) := by
  rcases h with rfl | rfl | rfl <;> exact Has.at H hin rfl
theorem own_m5 (j : Int32) (h : j = (2 : Int32) ∨ j = (3 : Int32) ∨ j = (4 : Int32)) : ¬ j < (0 : Int32) ∧ j < (5 : Int32) := by
  rcases h with rfl | rfl | rfl <;> decide
theorem pd_14 : parseMethodDescriptor "(Ljava/lang/String;Lcom/example/batchrake/batchrake/Outcome;)V" = some ⟨[(.object "java/lang/String"), (.object "com/example/batchrake/batchrake/Outcome")], none⟩ := by decide +kernel
theorem pd_15 : parseMethodDescriptor "(Ljava/lang/Object;)Z" = some ⟨[(.object "java/lang/Object")], some .boolean⟩ := by decide +kernel
theorem d40_0 : decode prog_1_method_4_code 0 = .ok (.getstatic 28, 3) := by decide +kernel
theorem d40_3 : decode prog_1_method_4_code 3 = .ok (.aload_n 2, 1) := by decide +kernel
theorem d40_4 : decode prog_1_method_4_code 4 = .ok (.invokevirtual 34, 3) := by decide +kernel
theorem d40_7 : decode prog_1_method_4_code 7 = .ok (.iaload, 1) := by decide +kernel
theorem d40_8 : decode prog_1_method_4_code 8 = .ok (.lookupswitch 54 #[(1, 28), (2, 41)], 28) := by decide +kernel
theorem d40_62 : decode prog_1_method_4_code 62 = .ok (.aload_n 0, 1) := by decide +kernel
theorem d40_63 : decode prog_1_method_4_code 63 = .ok (.getfield 17, 3) := by decide +kernel
theorem d40_66 : decode prog_1_method_4_code 66 = .ok (.new 47, 3) := by decide +kernel
theorem d40_69 : decode prog_1_method_4_code 69 = .ok (.dup, 1) := by decide +kernel
theorem d40_70 : decode prog_1_method_4_code 70 = .ok (.aload_n 1, 1) := by decide +kernel
theorem d40_71 : decode prog_1_method_4_code 71 = .ok (.aload_n 2, 1) := by decide +kernel
theorem d40_72 : decode prog_1_method_4_code 72 = .ok (.invokespecial 49, 3) := by decide +kernel
theorem d40_75 : decode prog_1_method_4_code 75 = .ok (.invokeinterface 52 2, 5) := by decide +kernel
theorem d40_80 : decode prog_1_method_4_code 80 = .ok (.pop, 1) := by decide +kernel
theorem d40_81 : decode prog_1_method_4_code 81 = .ok (.return_, 1) := by decide +kernel
theorem ef_40 (m : MethodId) (a40_0 : Addr) (a40_1 : Addr) (a40_2 : Addr) : entryFrame m #[(.ref a40_0), (.ref a40_1), (.ref a40_2)] 3 = mkF m 0 #[.val (.ref a40_0), .val (.ref a40_1), .val (.ref a40_2)] [] := by first | (simp [entryFrame, mkF, argsToLocals, Value.category]; done) | rfl
def Q40 (Z : State) (a40_0 : Addr) (a40_1 : Addr) (a40_2 : Addr) (u__SwitchMap_com_example_batchrake_batchrake_Outcome : Addr) (cl_u__SwitchMap_com_example_batchrake_batchrake_Outcome : Cell) (ll : Addr) (od : Int32) (mc : Int32) (u_DEFAULTCAPACITY_EMPTY_ELEMENTDATA : Addr) (cl_u_DEFAULTCAPACITY_EMPTY_ELEMENTDATA : Cell) (h0 : Heap) (n0 : Nat) (v : Option Value) (h : Heap) (L : List Loc) : Prop := ∃ fx : Addr, ∃ en : Addr, ∃ kn : ClassId, v = none ∧ Fr n0 L ∧ Keep h0 h [ll] ∧ n0 ≤ fx ∧ h0.size ≤ fx ∧ n0 ≤ en ∧ h0.size ≤ en ∧ Exa Z h ll "java/util/ArrayList" ∧ Fld Z h ll "java/util/AbstractList" "modCount" "I" (.int (mc + (1 : Int32))) ∧ Fld Z h ll "java/util/ArrayList" "size" "I" (.int (1 : Int32)) ∧ Fld Z h ll "java/util/ArrayList" "elementData" "[Ljava/lang/Object;" (.ref en) ∧ Arv Z h en kn (.object "java/lang/Object") (10 : Int32) [(.ref fx), .null, .null, .null, .null, .null, .null, .null, .null, .null] .null ∧ Exa Z h en "[Ljava/lang/Object;" ∧ Exa Z h fx "com/example/batchrake/batchrake/DeleteReport$Failure" ∧ Ovr Z kn "java/lang/Object"
set_option maxRecDepth 65536 in
set_option maxHeartbeats 40000000 in
theorem rm40 (l : Launch) (Z : State) (a0 : Array Value) (hw : ∀ d ∈ tables_1, d.before a0 Z = true) (ws : List Jvm.Cond) (a40_0 : Addr) (a40_1 : Addr) (a40_2 : Addr) (u__SwitchMap_com_example_batchrake_batchrake_Outcome : Addr) (cl_u__SwitchMap_com_example_batchrake_batchrake_Outcome : Cell) (ll : Addr) (od : Int32) (mc : Int32) (u_DEFAULTCAPACITY_EMPTY_ELEMENTDATA : Addr) (cl_u_DEFAULTCAPACITY_EMPTY_ELEMENTDATA : Cell) (h0 : Heap) (n0 : Nat) (Z0 : n0 ≤ h0.size) (S__SwitchMap_com_example_batchrake_batchrake_Outcome : Sta Z h0 "com/example/batchrake/batchrake/DeleteReport$1" "$SwitchMap$com$example$batchrake$batchrake$Outcome" "[I" (.ref u__SwitchMap_com_example_batchrake_batchrake_Outcome)) (V_u__SwitchMap_com_example_batchrake_batchrake_Outcome : Arv Z h0 u__SwitchMap_com_example_batchrake_batchrake_Outcome cl_u__SwitchMap_com_example_batchrake_batchrake_Outcome.cls .int (5 : Int32) [(.int (1 : Int32)), (.int (2 : Int32)), (.int (0 : Int32)), (.int (0 : Int32)), (.int (0 : Int32))] (.int (0 : Int32))) (Er : Exa Z h0 a40_0 "com/example/batchrake/batchrake/DeleteReport") (Ff : Fld Z h0 a40_0 "com/example/batchrake/batchrake/DeleteReport" "failures" "Ljava/util/List;" (.ref ll)) (Eo : Exa Z h0 a40_2 "com/example/batchrake/batchrake/Outcome") (Fo : Fld Z h0 a40_2 "java/lang/Enum" "ordinal" "I" (.int od)) (LEl : Exa Z h0 ll "java/util/ArrayList") (LFm : Fld Z h0 ll "java/util/AbstractList" "modCount" "I" (.int mc)) (LFz : Fld Z h0 ll "java/util/ArrayList" "size" "I" (.int (0 : Int32))) (LFe : Fld Z h0 ll "java/util/ArrayList" "elementData" "[Ljava/lang/Object;" (.ref u_DEFAULTCAPACITY_EMPTY_ELEMENTDATA)) (S_DEFAULTCAPACITY_EMPTY_ELEMENTDATA : Sta Z h0 "java/util/ArrayList" "DEFAULTCAPACITY_EMPTY_ELEMENTDATA" "[Ljava/lang/Object;" (.ref u_DEFAULTCAPACITY_EMPTY_ELEMENTDATA)) (V_u_DEFAULTCAPACITY_EMPTY_ELEMENTDATA : Arv Z h0 u_DEFAULTCAPACITY_EMPTY_ELEMENTDATA cl_u_DEFAULTCAPACITY_EMPTY_ELEMENTDATA.cls (.object "java/lang/Object") (0 : Int32) [] .null) (hg : od = (2 : Int32) ∨ od = (3 : Int32) ∨ od = (4 : Int32)) (hnd : u_DEFAULTCAPACITY_EMPTY_ELEMENTDATA ≠ ll) (g_ll : n0 ≤ ll) :
    MetFree l (⟨"com/example/batchrake/batchrake/DeleteReport", "add", "(Ljava/lang/String;Lcom/example/batchrake/batchrake/Outcome;)V"⟩ : MethodName) (head1 (Jvm.Cond.code (⟨"com/example/batchrake/batchrake/DeleteReport", "add", "(Ljava/lang/String;Lcom/example/batchrake/batchrake/Outcome;)V"⟩ : MethodName) prog_1_method_4_code 3 none :: ws) ({ frames := 5, cells := 2, slots := 12, locals := 69 } : Room)) (fun a U => a = #[(.ref a40_0), (.ref a40_1), (.ref a40_2)] ∧ Z.Warmed39 U.vm ∧ U.heap = h0) (fun _ _ _ _ _ => True) (fun _ U o U' => ∃ v L, o = .returned v ∧ Q40 Z a40_0 a40_1 a40_2 u__SwitchMap_com_example_batchrake_batchrake_Outcome cl_u__SwitchMap_com_example_batchrake_batchrake_Outcome ll od mc u_DEFAULTCAPACITY_EMPTY_ELEMENTDATA cl_u_DEFAULTCAPACITY_EMPTY_ELEMENTDATA h0 n0 v U'.heap L ∧ FrameEnd U o U' L ({ frames := 5, cells := 2, slots := 12, locals := 69 } : Room).cells ({ frames := 5, cells := 2, slots := 12, locals := 69 } : Room).slots) := by
  refine MetFree.of_bodySF (plainFor_of_name pn_3) hisR ?_
  intro p e s m args below meth c s₁ Bd hml0 hP hK
  obtain ⟨rfl, hZ, hh⟩ := hP
  have hx := Bd.exec
  have hby := Bd.bytes
  have hml : c.maxLocals = 3 := hml0
  have hown : s.vm.findClass "com/example/batchrake/batchrake/DeleteReport" = some m.cls := findClass_of_methodNamed Bd.named
  have hnm := (name_of_methodNamed Bd.named Bd.method).1
  have X0 : Stand p l e ({ frames := 5, cells := 2, slots := 12, locals := 69 } : Room) s m #[(.ref a40_0), (.ref a40_1), (.ref a40_2)] below meth c s₁ [] 0 0 := Stand.of_body Bd
  have e0 : s₁.heap = h0 := by rw [← hh, Bd.state]; rfl
  have N0 := Fr.nil n0
  have pre0 : ∀ t, Steps p.tables e below (s₁.setTop (mkF m 0 #[.val (.ref a40_0), .val (.ref a40_1), .val (.ref a40_2)] [])) t → Steps p.tables e below (s₁.setTop (entryFrame m #[(.ref a40_0), (.ref a40_1), (.ref a40_2)] 3)) t := fun t k => castTop (ef_40 m a40_0 a40_1 a40_2) k
  obtain ⟨T1, X1, e1, st1⟩ := getS2 X0 hx hZ hown (host := "") (Or.inl (wd hw 85 rfl)) Via.refl e0 S__SwitchMap_com_example_batchrake_batchrake_Outcome (g := (mkF m 0 #[.val (.ref a40_0), .val (.ref a40_1), .val (.ref a40_2)] [])) rfl (hb hby d40_0)
  obtain ⟨cq2, kq2, q2a, q2b, q2c⟩ := isOf hZ e1 Eo
  obtain ⟨_, _, ⟨T2, L2, k2, n2⟩, -, X2, ⟨Lc2, hQ2, l2, y2, z2⟩, st2⟩ := X1.virtualBackUp hx (x := (⟨"com/example/batchrake/batchrake/Outcome", "ordinal", "()I"⟩ : MethodName)) (y := (⟨"java/lang/Enum", "ordinal", "()I"⟩ : MethodName)) (owner := "java/lang/Enum") hown (mvT hZ (wd hw 88 rfl)) (mvT hZ (wd hw 89 rfl)) (mvT hZ (wd hw 90 rfl)) (by decide) (mvT hZ (wd hw 92 rfl)) (mvT hZ (wd hw 91 rfl)) (backOf (W := 1) (rm14 l Z a0 hw [] a40_2 od h0 n0 Z0 Fo) hZ (wd hw 94 rfl) (wd hw 93 rfl) (by decide) (by decide)) q2a q2c (g := (mkF m 4 #[.val (.ref a40_0), .val (.ref a40_1), .val (.ref a40_2)] [(.ref a40_2), (.ref u__SwitchMap_com_example_batchrake_batchrake_Outcome)])) rfl (by rw [hml]; rfl) (Steps.refl _) (argsL := []) (rest := [(.ref u__SwitchMap_com_example_batchrake_batchrake_Outcome)]) (lenOf pd_13 rfl) rfl (by show 2 * 0 + _ ≤ _; exact Nat.le_of_eq rfl) (hb hby d40_4) (fun _ _ => ⟨rfl, e1, (by decide : 0 + 0 ≤ _), (by decide : 0 + 0 ≤ _)⟩)
  dsimp only [Pt.U, Pt.locs, Pt.cells, Pt.slots] at X2 l2 y2 z2 st2 hQ2
  rw [l2, y2, z2] at X2
  obtain ⟨rfl, N2q, eh2⟩ := hQ2
  have N2 := Fr.app N0 N2q
  obtain ⟨cl3, Ar3, qc3, Sz3, Nn3, Hh3, Gg3⟩ := (id V_u__SwitchMap_com_example_batchrake_batchrake_Outcome)
  have hin3 : ¬ (od < 0 ∨ cl3.slots.size ≤ (od).toNatClampNeg) := inb_of Sz3 (own_m5 _ hg)
  obtain ⟨T4, X4, e4, st4⟩ := getF X2 hx hZ hown (host := "") (Or.inl (wd hw 45 rfl)) Via.refl eh2 Ff (g := (mkF m 63 #[.val (.ref a40_0), .val (.ref a40_1), .val (.ref a40_2)] [(.ref a40_0)])) rfl rfl (hb hby d40_63)
  obtain ⟨b5, g5⟩ : ∃ z, z = h0.size := ⟨_, rfl⟩
  obtain ⟨T5, h5, X5, e5, E5, A5, D5, -, st5⟩ := newO X4 hx hZ hown (wd hw 101 rfl) (wd hw 102 rfl) (wd hw 103 rfl) e4 (g := (mkF m 66 #[.val (.ref a40_0), .val (.ref a40_1), .val (.ref a40_2)] [(.ref ll)])) rfl (hb hby d40_66) (by decide) (by decide)
  rw [← g5] at A5 D5 st5
  have ne6 : u__SwitchMap_com_example_batchrake_batchrake_Outcome ≠ b5 := Nat.ne_of_lt (Nat.lt_of_lt_of_le V_u__SwitchMap_com_example_batchrake_batchrake_Outcome.lt (Nat.le_of_eq g5.symm))
  have ne7 : a40_0 ≠ b5 := Nat.ne_of_lt (Nat.lt_of_lt_of_le Er.lt (Nat.le_of_eq g5.symm))
  have ne8 : a40_2 ≠ b5 := Nat.ne_of_lt (Nat.lt_of_lt_of_le Eo.lt (Nat.le_of_eq g5.symm))
  have ne9 : ll ≠ b5 := Nat.ne_of_lt (Nat.lt_of_lt_of_le LEl.lt (Nat.le_of_eq g5.symm))
  have ne10 : u_DEFAULTCAPACITY_EMPTY_ELEMENTDATA ≠ b5 := Nat.ne_of_lt (Nat.lt_of_lt_of_le V_u_DEFAULTCAPACITY_EMPTY_ELEMENTDATA.lt (Nat.le_of_eq g5.symm))
  have gg5 : n0 ≤ b5 := Nat.le_trans Z0 (Nat.le_of_eq g5.symm)
  have sz5 : h0.size ≤ b5 := Nat.le_trans (Keep.refl h0 [ll]).1 (Nat.le_of_eq g5.symm)
  have Zs5 : n0 ≤ h5.size := Nat.le_trans Z0 E5.1
  have K5 : Keep h0 h5 [ll] := (Keep.refl h0 [ll]).ext E5
  have F11 := S__SwitchMap_com_example_batchrake_batchrake_Outcome.ext E5
  have F12 := V_u__SwitchMap_com_example_batchrake_batchrake_Outcome.ext E5
  have F13 := Er.ext E5
  have F14 := Ff.ext E5
  have F15 := Eo.ext E5
  have F16 := Fo.ext E5
  have F17 := LEl.ext E5
  have F18 := LFm.ext E5
  have F19 := LFz.ext E5
  have F20 := LFe.ext E5
  have F21 := S_DEFAULTCAPACITY_EMPTY_ELEMENTDATA.ext E5
  have F22 := V_u_DEFAULTCAPACITY_EMPTY_ELEMENTDATA.ext E5
  have F23 : Fld Z h5 b5 "com/example/batchrake/batchrake/DeleteReport$Failure" "name" "Ljava/lang/String;" .null := D5 (Or.inr (wd hw 109 rfl)) (ty := (.object "java/lang/String")) (by decide)
  have F24 : Fld Z h5 b5 "com/example/batchrake/batchrake/DeleteReport$Failure" "outcome" "Lcom/example/batchrake/batchrake/Outcome;" .null := D5 (Or.inr (wd hw 111 rfl)) (ty := (.object "com/example/batchrake/batchrake/Outcome")) (by decide)
  obtain ⟨_, _, ⟨T25, L25, k25, n25⟩, -, X25, ⟨Lc25, hQ25, l25, y25, z25⟩, st25⟩ := X5.specialBack hx (y := (⟨"com/example/batchrake/batchrake/DeleteReport$Failure", "<init>", "(Ljava/lang/String;Lcom/example/batchrake/batchrake/Outcome;)V"⟩ : MethodName)) rfl hown (mvT hZ (wd hw 104 rfl)) (mvT hZ (wd hw 105 rfl)) (mvT hZ (wd hw 106 rfl)) (by decide) (backOf (W := 2) (rm15 l Z a0 hw [] b5 a40_1 a40_2 h5 n0 Zs5 A5 F23 F24 gg5) hZ (wd hw 106 rfl) (wd hw 103 rfl) (by decide) (by decide)) (g := (mkF m 72 #[.val (.ref a40_0), .val (.ref a40_1), .val (.ref a40_2)] [(.ref a40_2), (.ref a40_1), (.ref b5), (.ref b5), (.ref ll)])) rfl (by rw [hml]; rfl) (Steps.refl _) (a := b5) (argsL := [(.ref a40_1), (.ref a40_2)]) (rest := [(.ref b5), (.ref ll)]) (lenOf pd_14 rfl) rfl (by show 2 * 0 + _ ≤ _; exact Nat.le_of_eq rfl) (hb hby d40_72) (fun _ _ => ⟨rfl, e5, (by decide : 1 + 0 ≤ _), (by decide : 2 + 0 ≤ _)⟩)
  dsimp only [Pt.U, Pt.locs, Pt.cells, Pt.slots] at X25 l25 y25 z25 st25 hQ25
  rw [l25, y25, z25] at X25
  obtain ⟨rfl, N25q, Kc25, G25_0⟩ := hQ25
  have Zs25 : n0 ≤ T25.heap.size := Nat.le_trans Zs5 Kc25.1
  have K25 : Keep h0 T25.heap [ll] := K5.trans Kc25 (allS (Or.inr sz5) all0)
  have F26 := own_stakeep F11 Kc25 (allS (own_nsE A5) all0)
  have F27 := F12.keep Kc25 (ninS ne6 nin0)
  have F28 := F13.keep Kc25
  have F29 := F14.keep Kc25 (ninS ne7 nin0)
  have F30 := F15.keep Kc25
  have F31 := F16.keep Kc25 (ninS ne8 nin0)
  have F32 := F17.keep Kc25
  have F33 := F18.keep Kc25 (ninS ne9 nin0)
  have F34 := F19.keep Kc25 (ninS ne9 nin0)
  have F35 := F20.keep Kc25 (ninS ne9 nin0)
  have F36 := own_stakeep F21 Kc25 (allS (own_nsE A5) all0)
  have F37 := F22.keep Kc25 (ninS ne10 nin0)
  have N25 := Fr.app N2 N25q
  obtain ⟨cq40, kq40, q40a, q40b, q40c⟩ := isOf hZ rfl F32
  obtain ⟨_, _, ⟨T40, L40, k40, n40⟩, -, X40, ⟨Lc40, hQ40, l40, y40, z40⟩, st40⟩ := X25.interfaceBack hx (xi := (⟨"java/util/List", "add", "(Ljava/lang/Object;)Z"⟩ : MethodName)) (y := (⟨"java/util/ArrayList", "add", "(Ljava/lang/Object;)Z"⟩ : MethodName)) hown (mvT hZ (wd hw 112 rfl)) (mvT hZ (wd hw 113 rfl)) (mvT hZ (wd hw 114 rfl)) (mvT hZ (wd hw 115 rfl)) (mvT hZ (wd hw 116 rfl)) (mvT hZ (wd hw 117 rfl)) (mvT hZ (wd hw 118 rfl)) (mvT hZ (wd hw 119 rfl)) (by decide) (backOf (W := 0) (rm23 l Z a0 hw [] ll b5 mc u_DEFAULTCAPACITY_EMPTY_ELEMENTDATA cl_u_DEFAULTCAPACITY_EMPTY_ELEMENTDATA T25.heap n0 Zs25 F32 F33 F34 G25_0 F35 F36 F37 (Ne.symm ne9) hnd g_ll) hZ (wd hw 120 rfl) (wd hw 23 rfl) (by decide) (by decide)) q40a q40b q40c (g := (mkF m 75 #[.val (.ref a40_0), .val (.ref a40_1), .val (.ref a40_2)] [(.ref b5), (.ref ll)])) rfl (by rw [hml]; rfl) (Steps.refl _) (argsL := [(.ref b5)]) (rest := []) (lenOf pd_15 rfl) rfl (by show 2 * 0 + _ ≤ _; exact Nat.le_of_eq rfl) (hb hby d40_75) (fun _ _ => ⟨rfl, rfl, (by decide : 1 + 1 ≤ _), (by decide : 2 + 10 ≤ _)⟩)
  dsimp only [Pt.U, Pt.locs, Pt.cells, Pt.slots] at X40 l40 y40 z40 st40 hQ40
  rw [l40, y40, z40] at X40
  obtain ⟨en_40, kn_40, rfl, N40q, Kc40, ggen_40, szen_40, G40_0, G40_1, G40_2, G40_3, G40_4, G40_5, P40_0⟩ := hQ40
  have ne41 : u__SwitchMap_com_example_batchrake_batchrake_Outcome ≠ en_40 := Nat.ne_of_lt (Nat.lt_of_lt_of_le F27.lt szen_40)
  have ne42 : a40_0 ≠ en_40 := Nat.ne_of_lt (Nat.lt_of_lt_of_le F28.lt szen_40)
  have ne43 : a40_2 ≠ en_40 := Nat.ne_of_lt (Nat.lt_of_lt_of_le F30.lt szen_40)
  have ne44 : ll ≠ en_40 := Nat.ne_of_lt (Nat.lt_of_lt_of_le F32.lt szen_40)
  have ne45 : u_DEFAULTCAPACITY_EMPTY_ELEMENTDATA ≠ en_40 := Nat.ne_of_lt (Nat.lt_of_lt_of_le F37.lt szen_40)
  have ne46 : b5 ≠ en_40 := Nat.ne_of_lt (Nat.lt_of_lt_of_le G25_0.lt szen_40)
  have szzen_40 : h0.size ≤ en_40 := Nat.le_trans K25.1 szen_40
  have Zs40 : n0 ≤ T40.heap.size := Nat.le_trans Zs25 Kc40.1
  have K40 : Keep h0 T40.heap [ll] := K25.trans Kc40 (allS (Or.inl (List.mem_of_getElem? (i := 0) rfl)) all0)
  have F47 := own_stakeep F26 Kc40 (allS (own_nsE F32) all0)
  have F49 := F28.keep Kc40
  have F51 := F30.keep Kc40
  have F53 := own_stakeep F36 Kc40 (allS (own_nsE F32) all0)
  have F54 := F37.keep Kc40 (ninS hnd nin0)
  have F55 := G25_0.keep Kc40
  have N40 := Fr.app N25 N40q
  have k56 : ∀ t, Steps p.tables e below (T40.setTop (mkF m 81 #[.val (.ref a40_0), .val (.ref a40_1), .val (.ref a40_2)] [])) t → Steps p.tables e below (s₁.setTop (entryFrame m #[(.ref a40_0), (.ref a40_1), (.ref a40_2)] 3)) t := by
    intro t k
    refine pre0 t ?_
    refine st1 _ ?_
    refine XS.aloadN X1.here hx rfl (hb hby d40_3) rfl rfl ?_
    refine st2.trans ?_
    refine X2.iaload hx (j := od) (v := (.int (0 : Int32))) (by rw [eh2]; exact Ar3.1) (State.isArrayOf_alike hZ.alike Ar3.2.1) Ar3.2.2 hin3 (own_map Hh3 hin3 hg) (g := (mkF m 7 #[.val (.ref a40_0), .val (.ref a40_1), .val (.ref a40_2)] [(.int od), (.ref u__SwitchMap_com_example_batchrake_batchrake_Outcome)])) rfl rfl (hb hby d40_7) _ ?_
    refine own_lsw X2.here hx rfl (pc0 := 8) (pc' := 62) rfl (hb hby d40_8) rfl (by decide) rfl (by decide) (by decide) ?_
    refine XS.aloadN X2.here hx rfl (hb hby d40_62) rfl rfl ?_
    refine st4 _ ?_
    refine st5 _ ?_
    refine XS.dup X5.here hx rfl (hb hby d40_69) rfl rfl ?_
    refine XS.aloadN X5.here hx rfl (hb hby d40_70) rfl rfl ?_
    refine XS.aloadN X5.here hx rfl (hb hby d40_71) rfl rfl ?_
    refine st25.trans ?_
    refine st40.trans ?_
    show Steps p.tables e below (T40.setTop (mkF m 80 #[.val (.ref a40_0), .val (.ref a40_1), .val (.ref a40_2)] [(.int (1 : Int32))])) _
    refine XS.pop X40.here hx rfl (hb hby d40_80) rfl rfl ?_
    exact k
  obtain ⟨fs, hr, hrun, hended, hW, hsame⟩ := X40.leave (v := none) (fun _ => rfl)
  refine ⟨_, _, k56 _ ?_, hrun, hended, _, _, rfl, ?_, ⟨_, rfl⟩, hW, hsame.mono (by decide) (by decide)⟩
  · exact X40.returnOut hx Bd.returns (hb hby d40_81) hr
  · show Q40 Z a40_0 a40_1 a40_2 u__SwitchMap_com_example_batchrake_batchrake_Outcome cl_u__SwitchMap_com_example_batchrake_batchrake_Outcome ll od mc u_DEFAULTCAPACITY_EMPTY_ELEMENTDATA cl_u_DEFAULTCAPACITY_EMPTY_ELEMENTDATA h0 n0 _ T40.heap _
    exact ⟨b5, en_40, kn_40, rfl, N40, K40, gg5, sz5, ggen_40, szzen_40, G40_0, G40_1, G40_2, G40_3, G40_4, G40_5, F55, P40_0⟩
theorem d41_0 : decode prog_1_method_4_code 0 = .ok (.getstatic 28, 3) := by decide +kernel
theorem d41_3 : decode prog_1_method_4_code 3 = .ok (.aload_n 2, 1) := by decide +kernel
theorem d41_4 : decode prog_1_method_4_code 4 = .ok (.invokevirtual 34, 3) := by decide +kernel
theorem d41_7 : decode prog_1_method_4_code 7 = .ok (.iaload, 1) := by decide +kernel
theorem d41_8 : decode prog_1_method_4_code 8 = .ok (.lookupswitch 54 #[(1, 28), (2, 41)], 28) := by decide +kernel
theorem d41_62 : decode prog_1_method_4_code 62 = .ok (.aload_n 0, 1) := by decide +kernel
theorem d41_63 : decode prog_1_method_4_code 63 = .ok (.getfield 17, 3) := by decide +kernel
theorem d41_66 : decode prog_1_method_4_code 66 = .ok (.new 47, 3) := by decide +kernel
theorem d41_69 : decode prog_1_method_4_code 69 = .ok (.dup, 1) := by decide +kernel
theorem d41_70 : decode prog_1_method_4_code 70 = .ok (.aload_n 1, 1) := by decide +kernel
theorem d41_71 : decode prog_1_method_4_code 71 = .ok (.aload_n 2, 1) := by decide +kernel
theorem d41_72 : decode prog_1_method_4_code 72 = .ok (.invokespecial 49, 3) := by decide +kernel
theorem d41_75 : decode prog_1_method_4_code 75 = .ok (.invokeinterface 52 2, 5) := by decide +kernel
theorem d41_80 : decode prog_1_method_4_code 80 = .ok (.pop, 1) := by decide +kernel
theorem d41_81 : decode prog_1_method_4_code 81 = .ok (.return_, 1) := by decide +kernel
theorem ef_41 (m : MethodId) (a41_0 : Addr) (a41_1 : Addr) (a41_2 : Addr) : entryFrame m #[(.ref a41_0), (.ref a41_1), (.ref a41_2)] 3 = mkF m 0 #[.val (.ref a41_0), .val (.ref a41_1), .val (.ref a41_2)] [] := by first | (simp [entryFrame, mkF, argsToLocals, Value.category]; done) | rfl
def Q41 (Z : State) (a41_0 : Addr) (a41_1 : Addr) (a41_2 : Addr) (u__SwitchMap_com_example_batchrake_batchrake_Outcome : Addr) (cl_u__SwitchMap_com_example_batchrake_batchrake_Outcome : Cell) (ll : Addr) (od : Int32) (mc : Int32) (ed : Addr) (ke : ClassId) (xe0 : Addr) (h0 : Heap) (n0 : Nat) (v : Option Value) (h : Heap) (L : List Loc) : Prop := ∃ fx : Addr, v = none ∧ Fr n0 L ∧ Keep h0 h [ll, ed] ∧ n0 ≤ fx ∧ h0.size ≤ fx ∧ Exa Z h ll "java/util/ArrayList" ∧ Fld Z h ll "java/util/AbstractList" "modCount" "I" (.int (mc + (1 : Int32))) ∧ Fld Z h ll "java/util/ArrayList" "size" "I" (.int (2 : Int32)) ∧ Fld Z h ll "java/util/ArrayList" "elementData" "[Ljava/lang/Object;" (.ref ed) ∧ Arv Z h ed ke (.object "java/lang/Object") (10 : Int32) [(.ref xe0), (.ref fx), .null, .null, .null, .null, .null, .null, .null, .null] .null ∧ Exa Z h ed "[Ljava/lang/Object;"
set_option maxRecDepth 65536 in
set_option maxHeartbeats 40000000 in
theorem rm41 (l : Launch) (Z : State) (a0 : Array Value) (hw : ∀ d ∈ tables_1, d.before a0 Z = true) (ws : List Jvm.Cond) (a41_0 : Addr) (a41_1 : Addr) (a41_2 : Addr) (u__SwitchMap_com_example_batchrake_batchrake_Outcome : Addr) (cl_u__SwitchMap_com_example_batchrake_batchrake_Outcome : Cell) (ll : Addr) (od : Int32) (mc : Int32) (ed : Addr) (ke : ClassId) (xe0 : Addr) (h0 : Heap) (n0 : Nat) (Z0 : n0 ≤ h0.size) (S__SwitchMap_com_example_batchrake_batchrake_Outcome : Sta Z h0 "com/example/batchrake/batchrake/DeleteReport$1" "$SwitchMap$com$example$batchrake$batchrake$Outcome" "[I" (.ref u__SwitchMap_com_example_batchrake_batchrake_Outcome)) (V_u__SwitchMap_com_example_batchrake_batchrake_Outcome : Arv Z h0 u__SwitchMap_com_example_batchrake_batchrake_Outcome cl_u__SwitchMap_com_example_batchrake_batchrake_Outcome.cls .int (5 : Int32) [(.int (1 : Int32)), (.int (2 : Int32)), (.int (0 : Int32)), (.int (0 : Int32)), (.int (0 : Int32))] (.int (0 : Int32))) (Er : Exa Z h0 a41_0 "com/example/batchrake/batchrake/DeleteReport") (Ff : Fld Z h0 a41_0 "com/example/batchrake/batchrake/DeleteReport" "failures" "Ljava/util/List;" (.ref ll)) (Eo : Exa Z h0 a41_2 "com/example/batchrake/batchrake/Outcome") (Fo : Fld Z h0 a41_2 "java/lang/Enum" "ordinal" "I" (.int od)) (LEl : Exa Z h0 ll "java/util/ArrayList") (LFm : Fld Z h0 ll "java/util/AbstractList" "modCount" "I" (.int mc)) (LFz : Fld Z h0 ll "java/util/ArrayList" "size" "I" (.int (1 : Int32))) (LFe : Fld Z h0 ll "java/util/ArrayList" "elementData" "[Ljava/lang/Object;" (.ref ed)) (LVe : Arv Z h0 ed ke (.object "java/lang/Object") (10 : Int32) [(.ref xe0), .null, .null, .null, .null, .null, .null, .null, .null, .null] .null) (LEd : Exa Z h0 ed "[Ljava/lang/Object;") (hg : od = (2 : Int32) ∨ od = (3 : Int32) ∨ od = (4 : Int32)) (hov : Ovr Z ke "java/lang/Object") (hne : ed ≠ ll) (g_ll : n0 ≤ ll) (g_ed : n0 ≤ ed) :
    MetFree l (⟨"com/example/batchrake/batchrake/DeleteReport", "add", "(Ljava/lang/String;Lcom/example/batchrake/batchrake/Outcome;)V"⟩ : MethodName) (head1 (Jvm.Cond.code (⟨"com/example/batchrake/batchrake/DeleteReport", "add", "(Ljava/lang/String;Lcom/example/batchrake/batchrake/Outcome;)V"⟩ : MethodName) prog_1_method_4_code 3 none :: ws) ({ frames := 2, cells := 1, slots := 2, locals := 28 } : Room)) (fun a U => a = #[(.ref a41_0), (.ref a41_1), (.ref a41_2)] ∧ Z.Warmed39 U.vm ∧ U.heap = h0) (fun _ _ _ _ _ => True) (fun _ U o U' => ∃ v L, o = .returned v ∧ Q41 Z a41_0 a41_1 a41_2 u__SwitchMap_com_example_batchrake_batchrake_Outcome cl_u__SwitchMap_com_example_batchrake_batchrake_Outcome ll od mc ed ke xe0 h0 n0 v U'.heap L ∧ FrameEnd U o U' L ({ frames := 2, cells := 1, slots := 2, locals := 28 } : Room).cells ({ frames := 2, cells := 1, slots := 2, locals := 28 } : Room).slots) := by
  refine MetFree.of_bodySF (plainFor_of_name pn_3) hisR ?_
  intro p e s m args below meth c s₁ Bd hml0 hP hK
  obtain ⟨rfl, hZ, hh⟩ := hP
  have hx := Bd.exec
  have hby := Bd.bytes
  have hml : c.maxLocals = 3 := hml0
  have hown : s.vm.findClass "com/example/batchrake/batchrake/DeleteReport" = some m.cls := findClass_of_methodNamed Bd.named
  have hnm := (name_of_methodNamed Bd.named Bd.method).1
  have X0 : Stand p l e ({ frames := 2, cells := 1, slots := 2, locals := 28 } : Room) s m #[(.ref a41_0), (.ref a41_1), (.ref a41_2)] below meth c s₁ [] 0 0 := Stand.of_body Bd
  have e0 : s₁.heap = h0 := by rw [← hh, Bd.state]; rfl
  have N0 := Fr.nil n0
  have pre0 : ∀ t, Steps p.tables e below (s₁.setTop (mkF m 0 #[.val (.ref a41_0), .val (.ref a41_1), .val (.ref a41_2)] [])) t → Steps p.tables e below (s₁.setTop (entryFrame m #[(.ref a41_0), (.ref a41_1), (.ref a41_2)] 3)) t := fun t k => castTop (ef_41 m a41_0 a41_1 a41_2) k
  obtain ⟨T1, X1, e1, st1⟩ := getS2 X0 hx hZ hown (host := "") (Or.inl (wd hw 85 rfl)) Via.refl e0 S__SwitchMap_com_example_batchrake_batchrake_Outcome (g := (mkF m 0 #[.val (.ref a41_0), .val (.ref a41_1), .val (.ref a41_2)] [])) rfl (hb hby d41_0)
  obtain ⟨cq2, kq2, q2a, q2b, q2c⟩ := isOf hZ e1 Eo
  obtain ⟨_, _, ⟨T2, L2, k2, n2⟩, -, X2, ⟨Lc2, hQ2, l2, y2, z2⟩, st2⟩ := X1.virtualBackUp hx (x := (⟨"com/example/batchrake/batchrake/Outcome", "ordinal", "()I"⟩ : MethodName)) (y := (⟨"java/lang/Enum", "ordinal", "()I"⟩ : MethodName)) (owner := "java/lang/Enum") hown (mvT hZ (wd hw 88 rfl)) (mvT hZ (wd hw 89 rfl)) (mvT hZ (wd hw 90 rfl)) (by decide) (mvT hZ (wd hw 92 rfl)) (mvT hZ (wd hw 91 rfl)) (backOf (W := 1) (rm14 l Z a0 hw [] a41_2 od h0 n0 Z0 Fo) hZ (wd hw 94 rfl) (wd hw 93 rfl) (by decide) (by decide)) q2a q2c (g := (mkF m 4 #[.val (.ref a41_0), .val (.ref a41_1), .val (.ref a41_2)] [(.ref a41_2), (.ref u__SwitchMap_com_example_batchrake_batchrake_Outcome)])) rfl (by rw [hml]; rfl) (Steps.refl _) (argsL := []) (rest := [(.ref u__SwitchMap_com_example_batchrake_batchrake_Outcome)]) (lenOf pd_13 rfl) rfl (by show 2 * 0 + _ ≤ _; exact Nat.le_of_eq rfl) (hb hby d41_4) (fun _ _ => ⟨rfl, e1, (by decide : 0 + 0 ≤ _), (by decide : 0 + 0 ≤ _)⟩)
  dsimp only [Pt.U, Pt.locs, Pt.cells, Pt.slots] at X2 l2 y2 z2 st2 hQ2
  rw [l2, y2, z2] at X2
  obtain ⟨rfl, N2q, eh2⟩ := hQ2
  have N2 := Fr.app N0 N2q
  obtain ⟨cl3, Ar3, qc3, Sz3, Nn3, Hh3, Gg3⟩ := (id V_u__SwitchMap_com_example_batchrake_batchrake_Outcome)
  have hin3 : ¬ (od < 0 ∨ cl3.slots.size ≤ (od).toNatClampNeg) := inb_of Sz3 (own_m5 _ hg)
  obtain ⟨T4, X4, e4, st4⟩ := getF X2 hx hZ hown (host := "") (Or.inl (wd hw 45 rfl)) Via.refl eh2 Ff (g := (mkF m 63 #[.val (.ref a41_0), .val (.ref a41_1), .val (.ref a41_2)] [(.ref a41_0)])) rfl rfl (hb hby d41_63)
  obtain ⟨b5, g5⟩ : ∃ z, z = h0.size := ⟨_, rfl⟩
  obtain ⟨T5, h5, X5, e5, E5, A5, D5, -, st5⟩ := newO X4 hx hZ hown (wd hw 101 rfl) (wd hw 102 rfl) (wd hw 103 rfl) e4 (g := (mkF m 66 #[.val (.ref a41_0), .val (.ref a41_1), .val (.ref a41_2)] [(.ref ll)])) rfl (hb hby d41_66) (by decide) (by decide)
  rw [← g5] at A5 D5 st5
  have ne6 : u__SwitchMap_com_example_batchrake_batchrake_Outcome ≠ b5 := Nat.ne_of_lt (Nat.lt_of_lt_of_le V_u__SwitchMap_com_example_batchrake_batchrake_Outcome.lt (Nat.le_of_eq g5.symm))
  have ne7 : a41_0 ≠ b5 := Nat.ne_of_lt (Nat.lt_of_lt_of_le Er.lt (Nat.le_of_eq g5.symm))
  have ne8 : a41_2 ≠ b5 := Nat.ne_of_lt (Nat.lt_of_lt_of_le Eo.lt (Nat.le_of_eq g5.symm))
  have ne9 : ll ≠ b5 := Nat.ne_of_lt (Nat.lt_of_lt_of_le LEl.lt (Nat.le_of_eq g5.symm))
  have ne10 : ed ≠ b5 := Nat.ne_of_lt (Nat.lt_of_lt_of_le LVe.lt (Nat.le_of_eq g5.symm))
  have gg5 : n0 ≤ b5 := Nat.le_trans Z0 (Nat.le_of_eq g5.symm)
  have sz5 : h0.size ≤ b5 := Nat.le_trans (Keep.refl h0 [ll, ed]).1 (Nat.le_of_eq g5.symm)
  have Zs5 : n0 ≤ h5.size := Nat.le_trans Z0 E5.1
  have K5 : Keep h0 h5 [ll, ed] := (Keep.refl h0 [ll, ed]).ext E5
  have F11 := S__SwitchMap_com_example_batchrake_batchrake_Outcome.ext E5
  have F12 := V_u__SwitchMap_com_example_batchrake_batchrake_Outcome.ext E5
  have F13 := Er.ext E5
  have F14 := Ff.ext E5
  have F15 := Eo.ext E5
  have F16 := Fo.ext E5
  have F17 := LEl.ext E5
  have F18 := LFm.ext E5
  have F19 := LFz.ext E5
  have F20 := LFe.ext E5
  have F21 := LVe.ext E5
  have F22 := LEd.ext E5
  have F23 : Fld Z h5 b5 "com/example/batchrake/batchrake/DeleteReport$Failure" "name" "Ljava/lang/String;" .null := D5 (Or.inr (wd hw 109 rfl)) (ty := (.object "java/lang/String")) (by decide)
  have F24 : Fld Z h5 b5 "com/example/batchrake/batchrake/DeleteReport$Failure" "outcome" "Lcom/example/batchrake/batchrake/Outcome;" .null := D5 (Or.inr (wd hw 111 rfl)) (ty := (.object "com/example/batchrake/batchrake/Outcome")) (by decide)
  obtain ⟨_, _, ⟨T25, L25, k25, n25⟩, -, X25, ⟨Lc25, hQ25, l25, y25, z25⟩, st25⟩ := X5.specialBack hx (y := (⟨"com/example/batchrake/batchrake/DeleteReport$Failure", "<init>", "(Ljava/lang/String;Lcom/example/batchrake/batchrake/Outcome;)V"⟩ : MethodName)) rfl hown (mvT hZ (wd hw 104 rfl)) (mvT hZ (wd hw 105 rfl)) (mvT hZ (wd hw 106 rfl)) (by decide) (backOf (W := 2) (rm15 l Z a0 hw [] b5 a41_1 a41_2 h5 n0 Zs5 A5 F23 F24 gg5) hZ (wd hw 106 rfl) (wd hw 103 rfl) (by decide) (by decide)) (g := (mkF m 72 #[.val (.ref a41_0), .val (.ref a41_1), .val (.ref a41_2)] [(.ref a41_2), (.ref a41_1), (.ref b5), (.ref b5), (.ref ll)])) rfl (by rw [hml]; rfl) (Steps.refl _) (a := b5) (argsL := [(.ref a41_1), (.ref a41_2)]) (rest := [(.ref b5), (.ref ll)]) (lenOf pd_14 rfl) rfl (by show 2 * 0 + _ ≤ _; exact Nat.le_of_eq rfl) (hb hby d41_72) (fun _ _ => ⟨rfl, e5, (by decide : 1 + 0 ≤ _), (by decide : 2 + 0 ≤ _)⟩)
  dsimp only [Pt.U, Pt.locs, Pt.cells, Pt.slots] at X25 l25 y25 z25 st25 hQ25
  rw [l25, y25, z25] at X25
  obtain ⟨rfl, N25q, Kc25, G25_0⟩ := hQ25
  have Zs25 : n0 ≤ T25.heap.size := Nat.le_trans Zs5 Kc25.1
  have K25 : Keep h0 T25.heap [ll, ed] := K5.trans Kc25 (allS (Or.inr sz5) all0)
  have F26 := own_stakeep F11 Kc25 (allS (own_nsE A5) all0)
  have F27 := F12.keep Kc25 (ninS ne6 nin0)
  have F28 := F13.keep Kc25
  have F29 := F14.keep Kc25 (ninS ne7 nin0)
  have F30 := F15.keep Kc25
  have F31 := F16.keep Kc25 (ninS ne8 nin0)
  have F32 := F17.keep Kc25
  have F33 := F18.keep Kc25 (ninS ne9 nin0)
  have F34 := F19.keep Kc25 (ninS ne9 nin0)
  have F35 := F20.keep Kc25 (ninS ne9 nin0)
  have F36 := F21.keep Kc25 (ninS ne10 nin0)
  have F37 := F22.keep Kc25
  have N25 := Fr.app N2 N25q
  obtain ⟨cq40, kq40, q40a, q40b, q40c⟩ := isOf hZ rfl F32
  obtain ⟨_, _, ⟨T40, L40, k40, n40⟩, -, X40, ⟨Lc40, hQ40, l40, y40, z40⟩, st40⟩ := X25.interfaceBack hx (xi := (⟨"java/util/List", "add", "(Ljava/lang/Object;)Z"⟩ : MethodName)) (y := (⟨"java/util/ArrayList", "add", "(Ljava/lang/Object;)Z"⟩ : MethodName)) hown (mvT hZ (wd hw 112 rfl)) (mvT hZ (wd hw 113 rfl)) (mvT hZ (wd hw 114 rfl)) (mvT hZ (wd hw 115 rfl)) (mvT hZ (wd hw 116 rfl)) (mvT hZ (wd hw 117 rfl)) (mvT hZ (wd hw 118 rfl)) (mvT hZ (wd hw 119 rfl)) (by decide) (backOf (W := 0) (rm24 l Z a0 hw [] ll b5 mc ke ed xe0 T25.heap n0 Zs25 F32 F33 F34 G25_0 F35 F36 F37 (Ne.symm ne9) hov hne g_ll g_ed) hZ (wd hw 120 rfl) (wd hw 23 rfl) (by decide) (by decide)) q40a q40b q40c (g := (mkF m 75 #[.val (.ref a41_0), .val (.ref a41_1), .val (.ref a41_2)] [(.ref b5), (.ref ll)])) rfl (by rw [hml]; rfl) (Steps.refl _) (argsL := [(.ref b5)]) (rest := []) (lenOf pd_15 rfl) rfl (by show 2 * 0 + _ ≤ _; exact Nat.le_of_eq rfl) (hb hby d41_75) (fun _ _ => ⟨rfl, rfl, (by decide : 1 + 0 ≤ _), (by decide : 2 + 0 ≤ _)⟩)
  dsimp only [Pt.U, Pt.locs, Pt.cells, Pt.slots] at X40 l40 y40 z40 st40 hQ40
  rw [l40, y40, z40] at X40
  obtain ⟨rfl, N40q, Kc40, G40_0, G40_1, G40_2, G40_3, G40_4, G40_5⟩ := hQ40
  have Zs40 : n0 ≤ T40.heap.size := Nat.le_trans Zs25 Kc40.1
  have K40 : Keep h0 T40.heap [ll, ed] := K25.trans Kc40 (allS (Or.inl (List.mem_of_getElem? (i := 0) rfl)) (allS (Or.inl (List.mem_of_getElem? (i := 1) rfl)) all0))
  have F41 := own_stakeep F26 Kc40 (allS (own_nsE F32) (allS (own_nsE F37) all0))
  have F43 := F28.keep Kc40
  have F45 := F30.keep Kc40
  have F47 := G25_0.keep Kc40
  have N40 := Fr.app N25 N40q
  have k48 : ∀ t, Steps p.tables e below (T40.setTop (mkF m 81 #[.val (.ref a41_0), .val (.ref a41_1), .val (.ref a41_2)] [])) t → Steps p.tables e below (s₁.setTop (entryFrame m #[(.ref a41_0), (.ref a41_1), (.ref a41_2)] 3)) t := by
    intro t k
    refine pre0 t ?_
    refine st1 _ ?_
    refine XS.aloadN X1.here hx rfl (hb hby d41_3) rfl rfl ?_
    refine st2.trans ?_
    refine X2.iaload hx (j := od) (v := (.int (0 : Int32))) (by rw [eh2]; exact Ar3.1) (State.isArrayOf_alike hZ.alike Ar3.2.1) Ar3.2.2 hin3 (own_map Hh3 hin3 hg) (g := (mkF m 7 #[.val (.ref a41_0), .val (.ref a41_1), .val (.ref a41_2)] [(.int od), (.ref u__SwitchMap_com_example_batchrake_batchrake_Outcome)])) rfl rfl (hb hby d41_7) _ ?_
    refine own_lsw X2.here hx rfl (pc0 := 8) (pc' := 62) rfl (hb hby d41_8) rfl (by decide) rfl (by decide) (by decide) ?_
    refine XS.aloadN X2.here hx rfl (hb hby d41_62) rfl rfl ?_
    refine st4 _ ?_
    refine st5 _ ?_
    refine XS.dup X5.here hx rfl (hb hby d41_69) rfl rfl ?_
    refine XS.aloadN X5.here hx rfl (hb hby d41_70) rfl rfl ?_
    refine XS.aloadN X5.here hx rfl (hb hby d41_71) rfl rfl ?_
    refine st25.trans ?_
    refine st40.trans ?_
    show Steps p.tables e below (T40.setTop (mkF m 80 #[.val (.ref a41_0), .val (.ref a41_1), .val (.ref a41_2)] [(.int (1 : Int32))])) _
    refine XS.pop X40.here hx rfl (hb hby d41_80) rfl rfl ?_
    exact k
  obtain ⟨fs, hr, hrun, hended, hW, hsame⟩ := X40.leave (v := none) (fun _ => rfl)
  refine ⟨_, _, k48 _ ?_, hrun, hended, _, _, rfl, ?_, ⟨_, rfl⟩, hW, hsame.mono (by decide) (by decide)⟩
  · exact X40.returnOut hx Bd.returns (hb hby d41_81) hr
  · show Q41 Z a41_0 a41_1 a41_2 u__SwitchMap_com_example_batchrake_batchrake_Outcome cl_u__SwitchMap_com_example_batchrake_batchrake_Outcome ll od mc ed ke xe0 h0 n0 _ T40.heap _
    exact ⟨b5, rfl, N40, K40, gg5, sz5, G40_0, G40_1, G40_2, G40_3, G40_4, G40_5⟩
theorem d42_0 : decode jdk_38_method_9_code 0 = .ok (.aload_n 0, 1) := by decide +kernel
theorem d42_1 : decode jdk_38_method_9_code 1 = .ok (.getfield 48, 3) := by decide +kernel
theorem d42_4 : decode jdk_38_method_9_code 4 = .ok (.ifCond .ne 7, 3) := by decide +kernel
theorem d42_7 : decode jdk_38_method_9_code 7 = .ok (.iconst 1, 1) := by decide +kernel
theorem d42_8 : decode jdk_38_method_9_code 8 = .ok (.goto 4, 3) := by decide +kernel
theorem d42_12 : decode jdk_38_method_9_code 12 = .ok (.ireturn, 1) := by decide +kernel
theorem ef_42 (m : MethodId) (a42_0 : Addr) : entryFrame m #[(.ref a42_0)] 1 = mkF m 0 #[.val (.ref a42_0)] [] := by first | (simp [entryFrame, mkF, argsToLocals, Value.category]; done) | rfl
def Q42 (Z : State) (a42_0 : Addr) (h0 : Heap) (n0 : Nat) (v : Option Value) (h : Heap) (L : List Loc) : Prop := v = some (.int (1 : Int32)) ∧ Fr n0 L ∧ h = h0
set_option maxRecDepth 65536 in
set_option maxHeartbeats 40000000 in
theorem rm42 (l : Launch) (Z : State) (a0 : Array Value) (hw : ∀ d ∈ tables_1, d.before a0 Z = true) (ws : List Jvm.Cond) (a42_0 : Addr) (h0 : Heap) (n0 : Nat) (Z0 : n0 ≤ h0.size) (Fz : Fld Z h0 a42_0 "java/util/ArrayList" "size" "I" (.int (0 : Int32))) :
    MetFree l (⟨"java/util/ArrayList", "isEmpty", "()Z"⟩ : MethodName) (head1 (Jvm.Cond.code (⟨"java/util/ArrayList", "isEmpty", "()Z"⟩ : MethodName) jdk_38_method_9_code 1 (some .boolean) :: ws) ({ frames := 0, cells := 0, slots := 0, locals := 0 } : Room)) (fun a U => a = #[(.ref a42_0)] ∧ Z.Warmed39 U.vm ∧ U.heap = h0) (fun _ _ _ _ _ => True) (fun _ U o U' => ∃ v L, o = .returned v ∧ Q42 Z a42_0 h0 n0 v U'.heap L ∧ FrameEnd U o U' L ({ frames := 0, cells := 0, slots := 0, locals := 0 } : Room).cells ({ frames := 0, cells := 0, slots := 0, locals := 0 } : Room).slots) := by
  refine MetFree.of_bodySF (plainFor_of_name pn_2) hisR ?_
  intro p e s m args below meth c s₁ Bd hml0 hP hK
  obtain ⟨rfl, hZ, hh⟩ := hP
  have hx := Bd.exec
  have hby := Bd.bytes
  have hml : c.maxLocals = 1 := hml0
  have hown : s.vm.findClass "java/util/ArrayList" = some m.cls := findClass_of_methodNamed Bd.named
  have hnm := (name_of_methodNamed Bd.named Bd.method).1
  have X0 : Stand p l e ({ frames := 0, cells := 0, slots := 0, locals := 0 } : Room) s m #[(.ref a42_0)] below meth c s₁ [] 0 0 := Stand.of_body Bd
  have e0 : s₁.heap = h0 := by rw [← hh, Bd.state]; rfl
  have N0 := Fr.nil n0
  have pre0 : ∀ t, Steps p.tables e below (s₁.setTop (mkF m 0 #[.val (.ref a42_0)] [])) t → Steps p.tables e below (s₁.setTop (entryFrame m #[(.ref a42_0)] 1)) t := fun t k => castTop (ef_42 m a42_0) k
  obtain ⟨T1, X1, e1, st1⟩ := getF X0 hx hZ hown (host := "") (Or.inl (wd hw 123 rfl)) Via.refl e0 Fz (g := (mkF m 1 #[.val (.ref a42_0)] [(.ref a42_0)])) rfl rfl (hb hby d42_1)
  have k2 : ∀ t, Steps p.tables e below (T1.setTop (mkF m 12 #[.val (.ref a42_0)] [(.int (1 : Int32))])) t → Steps p.tables e below (s₁.setTop (entryFrame m #[(.ref a42_0)] 1)) t := by
    intro t k
    refine pre0 t ?_
    refine XS.aloadN X0.here hx rfl (hb hby d42_0) rfl rfl ?_
    refine st1 _ ?_
    refine XS.ifNo X1.here hx rfl (hb hby d42_4) rfl ((if0 _ _).trans (teq (by decide : (0 : Int32) = (0 : Int32))).2) ?_
    refine XS.iconst X1.here hx rfl (hb hby d42_7) ?_
    refine XS.goto X1.here hx rfl (pc0 := 8) (pc' := 12) rfl (hb hby d42_8) (by decide) (by decide) ?_
    exact k
  obtain ⟨fs, hr, hrun, hended, hW, hsame⟩ := X1.leave (v := some (.int (1 : Int32))) (fun h => by rw [Bd.returns] at h; cases h)
  refine ⟨_, _, k2 _ ?_, hrun, hended, _, _, rfl, ?_, ⟨_, rfl⟩, hW, hsame.mono (by decide) (by decide)⟩
  · exact retN X1 hx (t := .boolean) Bd.returns (by simp) (hb hby d42_12) hr
  · show Q42 Z a42_0 h0 n0 _ T1.heap _
    rw [e1]
    exact ⟨rfl, N0, rfl⟩
theorem pd_16 : parseMethodDescriptor "()Z" = some ⟨[], some .boolean⟩ := by decide +kernel
theorem d43_0 : decode prog_1_method_6_code 0 = .ok (.aload_n 0, 1) := by decide +kernel
theorem d43_1 : decode prog_1_method_6_code 1 = .ok (.getfield 17, 3) := by decide +kernel
theorem d43_4 : decode prog_1_method_6_code 4 = .ok (.invokeinterface 62 1, 5) := by decide +kernel
theorem d43_9 : decode prog_1_method_6_code 9 = .ok (.ifCond .ne 7, 3) := by decide +kernel
theorem d43_16 : decode prog_1_method_6_code 16 = .ok (.iconst 0, 1) := by decide +kernel
theorem d43_17 : decode prog_1_method_6_code 17 = .ok (.ireturn, 1) := by decide +kernel
theorem ef_43 (m : MethodId) (a43_0 : Addr) : entryFrame m #[(.ref a43_0)] 1 = mkF m 0 #[.val (.ref a43_0)] [] := by first | (simp [entryFrame, mkF, argsToLocals, Value.category]; done) | rfl
def Q43 (Z : State) (a43_0 : Addr) (ll : Addr) (h0 : Heap) (n0 : Nat) (v : Option Value) (h : Heap) (L : List Loc) : Prop := v = some (.int (0 : Int32)) ∧ Fr n0 L ∧ h = h0
set_option maxRecDepth 65536 in
set_option maxHeartbeats 40000000 in
theorem rm43 (l : Launch) (Z : State) (a0 : Array Value) (hw : ∀ d ∈ tables_1, d.before a0 Z = true) (ws : List Jvm.Cond) (a43_0 : Addr) (ll : Addr) (h0 : Heap) (n0 : Nat) (Z0 : n0 ≤ h0.size) (Ff : Fld Z h0 a43_0 "com/example/batchrake/batchrake/DeleteReport" "failures" "Ljava/util/List;" (.ref ll)) (El : Exa Z h0 ll "java/util/ArrayList") (Fz : Fld Z h0 ll "java/util/ArrayList" "size" "I" (.int (0 : Int32))) :
    MetFree l (⟨"com/example/batchrake/batchrake/DeleteReport", "hasFailures", "()Z"⟩ : MethodName) (head1 (Jvm.Cond.code (⟨"com/example/batchrake/batchrake/DeleteReport", "hasFailures", "()Z"⟩ : MethodName) prog_1_method_6_code 1 (some .boolean) :: ws) ({ frames := 1, cells := 0, slots := 0, locals := 12 } : Room)) (fun a U => a = #[(.ref a43_0)] ∧ Z.Warmed39 U.vm ∧ U.heap = h0) (fun _ _ _ _ _ => True) (fun _ U o U' => ∃ v L, o = .returned v ∧ Q43 Z a43_0 ll h0 n0 v U'.heap L ∧ FrameEnd U o U' L ({ frames := 1, cells := 0, slots := 0, locals := 12 } : Room).cells ({ frames := 1, cells := 0, slots := 0, locals := 12 } : Room).slots) := by
  refine MetFree.of_bodySF (plainFor_of_name pn_3) hisR ?_
  intro p e s m args below meth c s₁ Bd hml0 hP hK
  obtain ⟨rfl, hZ, hh⟩ := hP
  have hx := Bd.exec
  have hby := Bd.bytes
  have hml : c.maxLocals = 1 := hml0
  have hown : s.vm.findClass "com/example/batchrake/batchrake/DeleteReport" = some m.cls := findClass_of_methodNamed Bd.named
  have hnm := (name_of_methodNamed Bd.named Bd.method).1
  have X0 : Stand p l e ({ frames := 1, cells := 0, slots := 0, locals := 12 } : Room) s m #[(.ref a43_0)] below meth c s₁ [] 0 0 := Stand.of_body Bd
  have e0 : s₁.heap = h0 := by rw [← hh, Bd.state]; rfl
  have N0 := Fr.nil n0
  have pre0 : ∀ t, Steps p.tables e below (s₁.setTop (mkF m 0 #[.val (.ref a43_0)] [])) t → Steps p.tables e below (s₁.setTop (entryFrame m #[(.ref a43_0)] 1)) t := fun t k => castTop (ef_43 m a43_0) k
  obtain ⟨T1, X1, e1, st1⟩ := getF X0 hx hZ hown (host := "") (Or.inl (wd hw 45 rfl)) Via.refl e0 Ff (g := (mkF m 1 #[.val (.ref a43_0)] [(.ref a43_0)])) rfl rfl (hb hby d43_1)
  obtain ⟨cq2, kq2, q2a, q2b, q2c⟩ := isOf hZ e1 El
  obtain ⟨_, _, ⟨T2, L2, k2, n2⟩, -, X2, ⟨Lc2, hQ2, l2, y2, z2⟩, st2⟩ := X1.interfaceBack hx (xi := (⟨"java/util/List", "isEmpty", "()Z"⟩ : MethodName)) (y := (⟨"java/util/ArrayList", "isEmpty", "()Z"⟩ : MethodName)) hown (mvT hZ (wd hw 204 rfl)) (mvT hZ (wd hw 205 rfl)) (mvT hZ (wd hw 206 rfl)) (mvT hZ (wd hw 207 rfl)) (mvT hZ (wd hw 208 rfl)) (mvT hZ (wd hw 209 rfl)) (mvT hZ (wd hw 210 rfl)) (mvT hZ (wd hw 119 rfl)) (by decide) (backOf (W := 0) (rm42 l Z a0 hw [] ll h0 n0 Z0 Fz) hZ (wd hw 211 rfl) (wd hw 23 rfl) (by decide) (by decide)) q2a q2b q2c (g := (mkF m 4 #[.val (.ref a43_0)] [(.ref ll)])) rfl (by rw [hml]; rfl) (Steps.refl _) (argsL := []) (rest := []) (lenOf pd_16 rfl) rfl (by show 2 * 0 + _ ≤ _; exact Nat.le_of_eq rfl) (hb hby d43_4) (fun _ _ => ⟨rfl, e1, (by decide : 0 + 0 ≤ _), (by decide : 0 + 0 ≤ _)⟩)
  dsimp only [Pt.U, Pt.locs, Pt.cells, Pt.slots] at X2 l2 y2 z2 st2 hQ2
  rw [l2, y2, z2] at X2
  obtain ⟨rfl, N2q, eh2⟩ := hQ2
  have N2 := Fr.app N0 N2q
  have k3 : ∀ t, Steps p.tables e below (T2.setTop (mkF m 17 #[.val (.ref a43_0)] [(.int (0 : Int32))])) t → Steps p.tables e below (s₁.setTop (entryFrame m #[(.ref a43_0)] 1)) t := by
    intro t k
    refine pre0 t ?_
    refine XS.aloadN X0.here hx rfl (hb hby d43_0) rfl rfl ?_
    refine st1 _ ?_
    refine st2.trans ?_
    refine XS.ifYes X2.here hx rfl (pc0 := 9) (pc' := 16) rfl (hb hby d43_9) rfl ((if0 _ _).trans (feq (by decide : ¬ ((1 : Int32) = (0 : Int32)))).2) (by decide) (by decide) ?_
    refine XS.iconst X2.here hx rfl (hb hby d43_16) ?_
    exact k
  obtain ⟨fs, hr, hrun, hended, hW, hsame⟩ := X2.leave (v := some (.int (0 : Int32))) (fun h => by rw [Bd.returns] at h; cases h)
  refine ⟨_, _, k3 _ ?_, hrun, hended, _, _, rfl, ?_, ⟨_, rfl⟩, hW, hsame.mono (by decide) (by decide)⟩
  · exact retN X2 hx (t := .boolean) Bd.returns (by simp) (hb hby d43_17) hr
  · show Q43 Z a43_0 ll h0 n0 _ T2.heap _
    rw [eh2]
    exact ⟨rfl, N2, rfl⟩
theorem d44_0 : decode jdk_38_method_9_code 0 = .ok (.aload_n 0, 1) := by decide +kernel
theorem d44_1 : decode jdk_38_method_9_code 1 = .ok (.getfield 48, 3) := by decide +kernel
theorem d44_4 : decode jdk_38_method_9_code 4 = .ok (.ifCond .ne 7, 3) := by decide +kernel
theorem d44_11 : decode jdk_38_method_9_code 11 = .ok (.iconst 0, 1) := by decide +kernel
theorem d44_12 : decode jdk_38_method_9_code 12 = .ok (.ireturn, 1) := by decide +kernel
theorem ef_44 (m : MethodId) (a44_0 : Addr) : entryFrame m #[(.ref a44_0)] 1 = mkF m 0 #[.val (.ref a44_0)] [] := by first | (simp [entryFrame, mkF, argsToLocals, Value.category]; done) | rfl
def Q44 (Z : State) (a44_0 : Addr) (zz : Int32) (h0 : Heap) (n0 : Nat) (v : Option Value) (h : Heap) (L : List Loc) : Prop := v = some (.int (0 : Int32)) ∧ Fr n0 L ∧ h = h0
set_option maxRecDepth 65536 in
set_option maxHeartbeats 40000000 in
theorem rm44 (l : Launch) (Z : State) (a0 : Array Value) (hw : ∀ d ∈ tables_1, d.before a0 Z = true) (ws : List Jvm.Cond) (a44_0 : Addr) (zz : Int32) (h0 : Heap) (n0 : Nat) (Z0 : n0 ≤ h0.size) (Fz : Fld Z h0 a44_0 "java/util/ArrayList" "size" "I" (.int zz)) (hz : ¬ (zz = (0 : Int32))) :
    MetFree l (⟨"java/util/ArrayList", "isEmpty", "()Z"⟩ : MethodName) (head1 (Jvm.Cond.code (⟨"java/util/ArrayList", "isEmpty", "()Z"⟩ : MethodName) jdk_38_method_9_code 1 (some .boolean) :: ws) ({ frames := 0, cells := 0, slots := 0, locals := 0 } : Room)) (fun a U => a = #[(.ref a44_0)] ∧ Z.Warmed39 U.vm ∧ U.heap = h0) (fun _ _ _ _ _ => True) (fun _ U o U' => ∃ v L, o = .returned v ∧ Q44 Z a44_0 zz h0 n0 v U'.heap L ∧ FrameEnd U o U' L ({ frames := 0, cells := 0, slots := 0, locals := 0 } : Room).cells ({ frames := 0, cells := 0, slots := 0, locals := 0 } : Room).slots) := by
  refine MetFree.of_bodySF (plainFor_of_name pn_2) hisR ?_
  intro p e s m args below meth c s₁ Bd hml0 hP hK
  obtain ⟨rfl, hZ, hh⟩ := hP
  have hx := Bd.exec
  have hby := Bd.bytes
  have hml : c.maxLocals = 1 := hml0
  have hown : s.vm.findClass "java/util/ArrayList" = some m.cls := findClass_of_methodNamed Bd.named
  have hnm := (name_of_methodNamed Bd.named Bd.method).1
  have X0 : Stand p l e ({ frames := 0, cells := 0, slots := 0, locals := 0 } : Room) s m #[(.ref a44_0)] below meth c s₁ [] 0 0 := Stand.of_body Bd
  have e0 : s₁.heap = h0 := by rw [← hh, Bd.state]; rfl
  have N0 := Fr.nil n0
  have pre0 : ∀ t, Steps p.tables e below (s₁.setTop (mkF m 0 #[.val (.ref a44_0)] [])) t → Steps p.tables e below (s₁.setTop (entryFrame m #[(.ref a44_0)] 1)) t := fun t k => castTop (ef_44 m a44_0) k
  obtain ⟨T1, X1, e1, st1⟩ := getF X0 hx hZ hown (host := "") (Or.inl (wd hw 123 rfl)) Via.refl e0 Fz (g := (mkF m 1 #[.val (.ref a44_0)] [(.ref a44_0)])) rfl rfl (hb hby d44_1)
  have k2 : ∀ t, Steps p.tables e below (T1.setTop (mkF m 12 #[.val (.ref a44_0)] [(.int (0 : Int32))])) t → Steps p.tables e below (s₁.setTop (entryFrame m #[(.ref a44_0)] 1)) t := by
    intro t k
    refine pre0 t ?_
    refine XS.aloadN X0.here hx rfl (hb hby d44_0) rfl rfl ?_
    refine st1 _ ?_
    refine XS.ifYes X1.here hx rfl (pc0 := 4) (pc' := 11) rfl (hb hby d44_4) rfl ((if0 _ _).trans (feq hz).2) (by decide) (by decide) ?_
    refine XS.iconst X1.here hx rfl (hb hby d44_11) ?_
    exact k
  obtain ⟨fs, hr, hrun, hended, hW, hsame⟩ := X1.leave (v := some (.int (0 : Int32))) (fun h => by rw [Bd.returns] at h; cases h)
  refine ⟨_, _, k2 _ ?_, hrun, hended, _, _, rfl, ?_, ⟨_, rfl⟩, hW, hsame.mono (by decide) (by decide)⟩
  · exact retN X1 hx (t := .boolean) Bd.returns (by simp) (hb hby d44_12) hr
  · show Q44 Z a44_0 zz h0 n0 _ T1.heap _
    rw [e1]
    exact ⟨rfl, N0, rfl⟩
theorem d45_0 : decode prog_1_method_6_code 0 = .ok (.aload_n 0, 1) := by decide +kernel
theorem d45_1 : decode prog_1_method_6_code 1 = .ok (.getfield 17, 3) := by decide +kernel
theorem d45_4 : decode prog_1_method_6_code 4 = .ok (.invokeinterface 62 1, 5) := by decide +kernel
theorem d45_9 : decode prog_1_method_6_code 9 = .ok (.ifCond .ne 7, 3) := by decide +kernel
theorem d45_12 : decode prog_1_method_6_code 12 = .ok (.iconst 1, 1) := by decide +kernel
theorem d45_13 : decode prog_1_method_6_code 13 = .ok (.goto 4, 3) := by decide +kernel
theorem d45_17 : decode prog_1_method_6_code 17 = .ok (.ireturn, 1) := by decide +kernel
theorem ef_45 (m : MethodId) (a45_0 : Addr) : entryFrame m #[(.ref a45_0)] 1 = mkF m 0 #[.val (.ref a45_0)] [] := by first | (simp [entryFrame, mkF, argsToLocals, Value.category]; done) | rfl
def Q45 (Z : State) (a45_0 : Addr) (ll : Addr) (zz : Int32) (h0 : Heap) (n0 : Nat) (v : Option Value) (h : Heap) (L : List Loc) : Prop := v = some (.int (1 : Int32)) ∧ Fr n0 L ∧ h = h0
set_option maxRecDepth 65536 in
set_option maxHeartbeats 40000000 in
theorem rm45 (l : Launch) (Z : State) (a0 : Array Value) (hw : ∀ d ∈ tables_1, d.before a0 Z = true) (ws : List Jvm.Cond) (a45_0 : Addr) (ll : Addr) (zz : Int32) (h0 : Heap) (n0 : Nat) (Z0 : n0 ≤ h0.size) (Ff : Fld Z h0 a45_0 "com/example/batchrake/batchrake/DeleteReport" "failures" "Ljava/util/List;" (.ref ll)) (El : Exa Z h0 ll "java/util/ArrayList") (Fz : Fld Z h0 ll "java/util/ArrayList" "size" "I" (.int zz)) (hz : ¬ (zz = (0 : Int32))) :
    MetFree l (⟨"com/example/batchrake/batchrake/DeleteReport", "hasFailures", "()Z"⟩ : MethodName) (head1 (Jvm.Cond.code (⟨"com/example/batchrake/batchrake/DeleteReport", "hasFailures", "()Z"⟩ : MethodName) prog_1_method_6_code 1 (some .boolean) :: ws) ({ frames := 1, cells := 0, slots := 0, locals := 12 } : Room)) (fun a U => a = #[(.ref a45_0)] ∧ Z.Warmed39 U.vm ∧ U.heap = h0) (fun _ _ _ _ _ => True) (fun _ U o U' => ∃ v L, o = .returned v ∧ Q45 Z a45_0 ll zz h0 n0 v U'.heap L ∧ FrameEnd U o U' L ({ frames := 1, cells := 0, slots := 0, locals := 12 } : Room).cells ({ frames := 1, cells := 0, slots := 0, locals := 12 } : Room).slots) := by
  refine MetFree.of_bodySF (plainFor_of_name pn_3) hisR ?_
  intro p e s m args below meth c s₁ Bd hml0 hP hK
  obtain ⟨rfl, hZ, hh⟩ := hP
  have hx := Bd.exec
  have hby := Bd.bytes
  have hml : c.maxLocals = 1 := hml0
  have hown : s.vm.findClass "com/example/batchrake/batchrake/DeleteReport" = some m.cls := findClass_of_methodNamed Bd.named
  have hnm := (name_of_methodNamed Bd.named Bd.method).1
  have X0 : Stand p l e ({ frames := 1, cells := 0, slots := 0, locals := 12 } : Room) s m #[(.ref a45_0)] below meth c s₁ [] 0 0 := Stand.of_body Bd
  have e0 : s₁.heap = h0 := by rw [← hh, Bd.state]; rfl
  have N0 := Fr.nil n0
  have pre0 : ∀ t, Steps p.tables e below (s₁.setTop (mkF m 0 #[.val (.ref a45_0)] [])) t → Steps p.tables e below (s₁.setTop (entryFrame m #[(.ref a45_0)] 1)) t := fun t k => castTop (ef_45 m a45_0) k
  obtain ⟨T1, X1, e1, st1⟩ := getF X0 hx hZ hown (host := "") (Or.inl (wd hw 45 rfl)) Via.refl e0 Ff (g := (mkF m 1 #[.val (.ref a45_0)] [(.ref a45_0)])) rfl rfl (hb hby d45_1)
  obtain ⟨cq2, kq2, q2a, q2b, q2c⟩ := isOf hZ e1 El
  obtain ⟨_, _, ⟨T2, L2, k2, n2⟩, -, X2, ⟨Lc2, hQ2, l2, y2, z2⟩, st2⟩ := X1.interfaceBack hx (xi := (⟨"java/util/List", "isEmpty", "()Z"⟩ : MethodName)) (y := (⟨"java/util/ArrayList", "isEmpty", "()Z"⟩ : MethodName)) hown (mvT hZ (wd hw 204 rfl)) (mvT hZ (wd hw 205 rfl)) (mvT hZ (wd hw 206 rfl)) (mvT hZ (wd hw 207 rfl)) (mvT hZ (wd hw 208 rfl)) (mvT hZ (wd hw 209 rfl)) (mvT hZ (wd hw 210 rfl)) (mvT hZ (wd hw 119 rfl)) (by decide) (backOf (W := 0) (rm44 l Z a0 hw [] ll zz h0 n0 Z0 Fz hz) hZ (wd hw 211 rfl) (wd hw 23 rfl) (by decide) (by decide)) q2a q2b q2c (g := (mkF m 4 #[.val (.ref a45_0)] [(.ref ll)])) rfl (by rw [hml]; rfl) (Steps.refl _) (argsL := []) (rest := []) (lenOf pd_16 rfl) rfl (by show 2 * 0 + _ ≤ _; exact Nat.le_of_eq rfl) (hb hby d45_4) (fun _ _ => ⟨rfl, e1, (by decide : 0 + 0 ≤ _), (by decide : 0 + 0 ≤ _)⟩)
  dsimp only [Pt.U, Pt.locs, Pt.cells, Pt.slots] at X2 l2 y2 z2 st2 hQ2
  rw [l2, y2, z2] at X2
  obtain ⟨rfl, N2q, eh2⟩ := hQ2
  have N2 := Fr.app N0 N2q
  have k3 : ∀ t, Steps p.tables e below (T2.setTop (mkF m 17 #[.val (.ref a45_0)] [(.int (1 : Int32))])) t → Steps p.tables e below (s₁.setTop (entryFrame m #[(.ref a45_0)] 1)) t := by
    intro t k
    refine pre0 t ?_
    refine XS.aloadN X0.here hx rfl (hb hby d45_0) rfl rfl ?_
    refine st1 _ ?_
    refine st2.trans ?_
    refine XS.ifNo X2.here hx rfl (hb hby d45_9) rfl ((if0 _ _).trans (teq (by decide : (0 : Int32) = (0 : Int32))).2) ?_
    refine XS.iconst X2.here hx rfl (hb hby d45_12) ?_
    refine XS.goto X2.here hx rfl (pc0 := 13) (pc' := 17) rfl (hb hby d45_13) (by decide) (by decide) ?_
    exact k
  obtain ⟨fs, hr, hrun, hended, hW, hsame⟩ := X2.leave (v := some (.int (1 : Int32))) (fun h => by rw [Bd.returns] at h; cases h)
  refine ⟨_, _, k3 _ ?_, hrun, hended, _, _, rfl, ?_, ⟨_, rfl⟩, hW, hsame.mono (by decide) (by decide)⟩
  · exact retN X2 hx (t := .boolean) Bd.returns (by simp) (hb hby d45_17) hr
  · show Q45 Z a45_0 ll zz h0 n0 _ T2.heap _
    rw [eh2]
    exact ⟨rfl, N2, rfl⟩
def own_base (Z : State) (n0 : Nat) (h : Heap) (u_DEFAULTCAPACITY_EMPTY_ELEMENTDATA : Addr) (cl_u_DEFAULTCAPACITY_EMPTY_ELEMENTDATA : Cell) (u_DELETED : Addr) (u__SwitchMap_com_example_batchrake_batchrake_Outcome : Addr) (cl_u__SwitchMap_com_example_batchrake_batchrake_Outcome : Cell) (u_CONFLICT : Addr) (u_BAD_REQUEST : Addr) (u_STORE_ERROR : Addr) (u_NOT_FOUND : Addr) (cs : Int32) : Prop := Sta Z h "java/util/ArrayList" "DEFAULTCAPACITY_EMPTY_ELEMENTDATA" "[Ljava/lang/Object;" (.ref u_DEFAULTCAPACITY_EMPTY_ELEMENTDATA) ∧ Exa Z h u_DEFAULTCAPACITY_EMPTY_ELEMENTDATA "[Ljava/lang/Object;" ∧ Sta Z h "com/example/batchrake/batchrake/Outcome" "DELETED" "Lcom/example/batchrake/batchrake/Outcome;" (.ref u_DELETED) ∧ Exa Z h u_DELETED "com/example/batchrake/batchrake/Outcome" ∧ Sta Z h "com/example/batchrake/batchrake/DeleteReport$1" "$SwitchMap$com$example$batchrake$batchrake$Outcome" "[I" (.ref u__SwitchMap_com_example_batchrake_batchrake_Outcome) ∧ Fld Z h u_DELETED "java/lang/Enum" "ordinal" "I" (.int (0 : Int32)) ∧ Sta Z h "com/example/batchrake/batchrake/Outcome" "CONFLICT" "Lcom/example/batchrake/batchrake/Outcome;" (.ref u_CONFLICT) ∧ Exa Z h u_CONFLICT "com/example/batchrake/batchrake/Outcome" ∧ Fld Z h u_CONFLICT "java/lang/Enum" "ordinal" "I" (.int (3 : Int32)) ∧ Sta Z h "com/example/batchrake/batchrake/Outcome" "BAD_REQUEST" "Lcom/example/batchrake/batchrake/Outcome;" (.ref u_BAD_REQUEST) ∧ Exa Z h u_BAD_REQUEST "com/example/batchrake/batchrake/Outcome" ∧ Fld Z h u_BAD_REQUEST "java/lang/Enum" "ordinal" "I" (.int (2 : Int32)) ∧ Sta Z h "com/example/batchrake/batchrake/Outcome" "STORE_ERROR" "Lcom/example/batchrake/batchrake/Outcome;" (.ref u_STORE_ERROR) ∧ Exa Z h u_STORE_ERROR "com/example/batchrake/batchrake/Outcome" ∧ Fld Z h u_STORE_ERROR "java/lang/Enum" "ordinal" "I" (.int (4 : Int32)) ∧ Sta Z h "com/example/batchrake/batchrake/Outcome" "NOT_FOUND" "Lcom/example/batchrake/batchrake/Outcome;" (.ref u_NOT_FOUND) ∧ Exa Z h u_NOT_FOUND "com/example/batchrake/batchrake/Outcome" ∧ Fld Z h u_NOT_FOUND "java/lang/Enum" "ordinal" "I" (.int (1 : Int32)) ∧ Arv Z h u_DEFAULTCAPACITY_EMPTY_ELEMENTDATA cl_u_DEFAULTCAPACITY_EMPTY_ELEMENTDATA.cls (.object "java/lang/Object") (0 : Int32) [] .null ∧ Arv Z h u__SwitchMap_com_example_batchrake_batchrake_Outcome cl_u__SwitchMap_com_example_batchrake_batchrake_Outcome.cls .int (5 : Int32) [(.int (1 : Int32)), (.int (2 : Int32)), (.int (0 : Int32)), (.int (0 : Int32)), (.int (0 : Int32))] (.int (0 : Int32)) ∧ Sta Z h "java/lang/String" "COMPACT_STRINGS" "Z" (.int cs) ∧ u_DEFAULTCAPACITY_EMPTY_ELEMENTDATA < n0 ∧ u__SwitchMap_com_example_batchrake_batchrake_Outcome < n0 ∧ u_DELETED < n0 ∧ u_NOT_FOUND < n0 ∧ u_BAD_REQUEST < n0 ∧ u_CONFLICT < n0 ∧ u_STORE_ERROR < n0
theorem own_b0 {Z : State} {n0 : Nat} {h : Heap} {u_DEFAULTCAPACITY_EMPTY_ELEMENTDATA : Addr} {cl_u_DEFAULTCAPACITY_EMPTY_ELEMENTDATA : Cell} {u_DELETED : Addr} {u__SwitchMap_com_example_batchrake_batchrake_Outcome : Addr} {cl_u__SwitchMap_com_example_batchrake_batchrake_Outcome : Cell} {u_CONFLICT : Addr} {u_BAD_REQUEST : Addr} {u_STORE_ERROR : Addr} {u_NOT_FOUND : Addr} {cs : Int32} (B : own_base Z n0 h u_DEFAULTCAPACITY_EMPTY_ELEMENTDATA cl_u_DEFAULTCAPACITY_EMPTY_ELEMENTDATA u_DELETED u__SwitchMap_com_example_batchrake_batchrake_Outcome cl_u__SwitchMap_com_example_batchrake_batchrake_Outcome u_CONFLICT u_BAD_REQUEST u_STORE_ERROR u_NOT_FOUND cs) : Sta Z h "java/util/ArrayList" "DEFAULTCAPACITY_EMPTY_ELEMENTDATA" "[Ljava/lang/Object;" (.ref u_DEFAULTCAPACITY_EMPTY_ELEMENTDATA) := B.1
theorem own_b1 {Z : State} {n0 : Nat} {h : Heap} {u_DEFAULTCAPACITY_EMPTY_ELEMENTDATA : Addr} {cl_u_DEFAULTCAPACITY_EMPTY_ELEMENTDATA : Cell} {u_DELETED : Addr} {u__SwitchMap_com_example_batchrake_batchrake_Outcome : Addr} {cl_u__SwitchMap_com_example_batchrake_batchrake_Outcome : Cell} {u_CONFLICT : Addr} {u_BAD_REQUEST : Addr} {u_STORE_ERROR : Addr} {u_NOT_FOUND : Addr} {cs : Int32} (B : own_base Z n0 h u_DEFAULTCAPACITY_EMPTY_ELEMENTDATA cl_u_DEFAULTCAPACITY_EMPTY_ELEMENTDATA u_DELETED u__SwitchMap_com_example_batchrake_batchrake_Outcome cl_u__SwitchMap_com_example_batchrake_batchrake_Outcome u_CONFLICT u_BAD_REQUEST u_STORE_ERROR u_NOT_FOUND cs) : Exa Z h u_DEFAULTCAPACITY_EMPTY_ELEMENTDATA "[Ljava/lang/Object;" := B.2.1
theorem own_b2 {Z : State} {n0 : Nat} {h : Heap} {u_DEFAULTCAPACITY_EMPTY_ELEMENTDATA : Addr} {cl_u_DEFAULTCAPACITY_EMPTY_ELEMENTDATA : Cell} {u_DELETED : Addr} {u__SwitchMap_com_example_batchrake_batchrake_Outcome : Addr} {cl_u__SwitchMap_com_example_batchrake_batchrake_Outcome : Cell} {u_CONFLICT : Addr} {u_BAD_REQUEST : Addr} {u_STORE_ERROR : Addr} {u_NOT_FOUND : Addr} {cs : Int32} (B : own_base Z n0 h u_DEFAULTCAPACITY_EMPTY_ELEMENTDATA cl_u_DEFAULTCAPACITY_EMPTY_ELEMENTDATA u_DELETED u__SwitchMap_com_example_batchrake_batchrake_Outcome cl_u__SwitchMap_com_example_batchrake_batchrake_Outcome u_CONFLICT u_BAD_REQUEST u_STORE_ERROR u_NOT_FOUND cs) : Sta Z h "com/example/batchrake/batchrake/Outcome" "DELETED" "Lcom/example/batchrake/batchrake/Outcome;" (.ref u_DELETED) := B.2.2.1
theorem own_b3 {Z : State} {n0 : Nat} {h : Heap} {u_DEFAULTCAPACITY_EMPTY_ELEMENTDATA : Addr} {cl_u_DEFAULTCAPACITY_EMPTY_ELEMENTDATA : Cell} {u_DELETED : Addr} {u__SwitchMap_com_example_batchrake_batchrake_Outcome : Addr} {cl_u__SwitchMap_com_example_batchrake_batchrake_Outcome : Cell} {u_CONFLICT : Addr} {u_BAD_REQUEST : Addr} {u_STORE_ERROR : Addr} {u_NOT_FOUND : Addr} {cs : Int32} (B : own_base Z n0 h u_DEFAULTCAPACITY_EMPTY_ELEMENTDATA cl_u_DEFAULTCAPACITY_EMPTY_ELEMENTDATA u_DELETED u__SwitchMap_com_example_batchrake_batchrake_Outcome cl_u__SwitchMap_com_example_batchrake_batchrake_Outcome u_CONFLICT u_BAD_REQUEST u_STORE_ERROR u_NOT_FOUND cs) : Exa Z h u_DELETED "com/example/batchrake/batchrake/Outcome" := B.2.2.2.1
theorem own_b4 {Z : State} {n0 : Nat} {h : Heap} {u_DEFAULTCAPACITY_EMPTY_ELEMENTDATA : Addr} {cl_u_DEFAULTCAPACITY_EMPTY_ELEMENTDATA : Cell} {u_DELETED : Addr} {u__SwitchMap_com_example_batchrake_batchrake_Outcome : Addr} {cl_u__SwitchMap_com_example_batchrake_batchrake_Outcome : Cell} {u_CONFLICT : Addr} {u_BAD_REQUEST : Addr} {u_STORE_ERROR : Addr} {u_NOT_FOUND : Addr} {cs : Int32} (B : own_base Z n0 h u_DEFAULTCAPACITY_EMPTY_ELEMENTDATA cl_u_DEFAULTCAPACITY_EMPTY_ELEMENTDATA u_DELETED u__SwitchMap_com_example_batchrake_batchrake_Outcome cl_u__SwitchMap_com_example_batchrake_batchrake_Outcome u_CONFLICT u_BAD_REQUEST u_STORE_ERROR u_NOT_FOUND cs) : Sta Z h "com/example/batchrake/batchrake/DeleteReport$1" "$SwitchMap$com$example$batchrake$batchrake$Outcome" "[I" (.ref u__SwitchMap_com_example_batchrake_batchrake_Outcome) := B.2.2.2.2.1
theorem own_b5 {Z : State} {n0 : Nat} {h : Heap} {u_DEFAULTCAPACITY_EMPTY_ELEMENTDATA : Addr} {cl_u_DEFAULTCAPACITY_EMPTY_ELEMENTDATA : Cell} {u_DELETED : Addr} {u__SwitchMap_com_example_batchrake_batchrake_Outcome : Addr} {cl_u__SwitchMap_com_example_batchrake_batchrake_Outcome : Cell} {u_CONFLICT : Addr} {u_BAD_REQUEST : Addr} {u_STORE_ERROR : Addr} {u_NOT_FOUND : Addr} {cs : Int32} (B : own_base Z n0 h u_DEFAULTCAPACITY_EMPTY_ELEMENTDATA cl_u_DEFAULTCAPACITY_EMPTY_ELEMENTDATA u_DELETED u__SwitchMap_com_example_batchrake_batchrake_Outcome cl_u__SwitchMap_com_example_batchrake_batchrake_Outcome u_CONFLICT u_BAD_REQUEST u_STORE_ERROR u_NOT_FOUND cs) : Fld Z h u_DELETED "java/lang/Enum" "ordinal" "I" (.int (0 : Int32)) := B.2.2.2.2.2.1
theorem own_b6 {Z : State} {n0 : Nat} {h : Heap} {u_DEFAULTCAPACITY_EMPTY_ELEMENTDATA : Addr} {cl_u_DEFAULTCAPACITY_EMPTY_ELEMENTDATA : Cell} {u_DELETED : Addr} {u__SwitchMap_com_example_batchrake_batchrake_Outcome : Addr} {cl_u__SwitchMap_com_example_batchrake_batchrake_Outcome : Cell} {u_CONFLICT : Addr} {u_BAD_REQUEST : Addr} {u_STORE_ERROR : Addr} {u_NOT_FOUND : Addr} {cs : Int32} (B : own_base Z n0 h u_DEFAULTCAPACITY_EMPTY_ELEMENTDATA cl_u_DEFAULTCAPACITY_EMPTY_ELEMENTDATA u_DELETED u__SwitchMap_com_example_batchrake_batchrake_Outcome cl_u__SwitchMap_com_example_batchrake_batchrake_Outcome u_CONFLICT u_BAD_REQUEST u_STORE_ERROR u_NOT_FOUND cs) : Sta Z h "com/example/batchrake/batchrake/Outcome" "CONFLICT" "Lcom/example/batchrake/batchrake/Outcome;" (.ref u_CONFLICT) := B.2.2.2.2.2.2.1
theorem own_b7 {Z : State} {n0 : Nat} {h : Heap} {u_DEFAULTCAPACITY_EMPTY_ELEMENTDATA : Addr} {cl_u_DEFAULTCAPACITY_EMPTY_ELEMENTDATA : Cell} {u_DELETED : Addr} {u__SwitchMap_com_example_batchrake_batchrake_Outcome : Addr} {cl_u__SwitchMap_com_example_batchrake_batchrake_Outcome : Cell} {u_CONFLICT : Addr} {u_BAD_REQUEST : Addr} {u_STORE_ERROR : Addr} {u_NOT_FOUND : Addr} {cs : Int32} (B : own_base Z n0 h u_DEFAULTCAPACITY_EMPTY_ELEMENTDATA cl_u_DEFAULTCAPACITY_EMPTY_ELEMENTDATA u_DELETED u__SwitchMap_com_example_batchrake_batchrake_Outcome cl_u__SwitchMap_com_example_batchrake_batchrake_Outcome u_CONFLICT u_BAD_REQUEST u_STORE_ERROR u_NOT_FOUND cs) : Exa Z h u_CONFLICT "com/example/batchrake/batchrake/Outcome" := B.2.2.2.2.2.2.2.1
theorem own_b8 {Z : State} {n0 : Nat} {h : Heap} {u_DEFAULTCAPACITY_EMPTY_ELEMENTDATA : Addr} {cl_u_DEFAULTCAPACITY_EMPTY_ELEMENTDATA : Cell} {u_DELETED : Addr} {u__SwitchMap_com_example_batchrake_batchrake_Outcome : Addr} {cl_u__SwitchMap_com_example_batchrake_batchrake_Outcome : Cell} {u_CONFLICT : Addr} {u_BAD_REQUEST : Addr} {u_STORE_ERROR : Addr} {u_NOT_FOUND : Addr} {cs : Int32} (B : own_base Z n0 h u_DEFAULTCAPACITY_EMPTY_ELEMENTDATA cl_u_DEFAULTCAPACITY_EMPTY_ELEMENTDATA u_DELETED u__SwitchMap_com_example_batchrake_batchrake_Outcome cl_u__SwitchMap_com_example_batchrake_batchrake_Outcome u_CONFLICT u_BAD_REQUEST u_STORE_ERROR u_NOT_FOUND cs) : Fld Z h u_CONFLICT "java/lang/Enum" "ordinal" "I" (.int (3 : Int32)) := B.2.2.2.2.2.2.2.2.1
theorem own_b9 {Z : State} {n0 : Nat} {h : Heap} {u_DEFAULTCAPACITY_EMPTY_ELEMENTDATA : Addr} {cl_u_DEFAULTCAPACITY_EMPTY_ELEMENTDATA : Cell} {u_DELETED : Addr} {u__SwitchMap_com_example_batchrake_batchrake_Outcome : Addr} {cl_u__SwitchMap_com_example_batchrake_batchrake_Outcome : Cell} {u_CONFLICT : Addr} {u_BAD_REQUEST : Addr} {u_STORE_ERROR : Addr} {u_NOT_FOUND : Addr} {cs : Int32} (B : own_base Z n0 h u_DEFAULTCAPACITY_EMPTY_ELEMENTDATA cl_u_DEFAULTCAPACITY_EMPTY_ELEMENTDATA u_DELETED u__SwitchMap_com_example_batchrake_batchrake_Outcome cl_u__SwitchMap_com_example_batchrake_batchrake_Outcome u_CONFLICT u_BAD_REQUEST u_STORE_ERROR u_NOT_FOUND cs) : Sta Z h "com/example/batchrake/batchrake/Outcome" "BAD_REQUEST" "Lcom/example/batchrake/batchrake/Outcome;" (.ref u_BAD_REQUEST) := B.2.2.2.2.2.2.2.2.2.1
theorem own_b10 {Z : State} {n0 : Nat} {h : Heap} {u_DEFAULTCAPACITY_EMPTY_ELEMENTDATA : Addr} {cl_u_DEFAULTCAPACITY_EMPTY_ELEMENTDATA : Cell} {u_DELETED : Addr} {u__SwitchMap_com_example_batchrake_batchrake_Outcome : Addr} {cl_u__SwitchMap_com_example_batchrake_batchrake_Outcome : Cell} {u_CONFLICT : Addr} {u_BAD_REQUEST : Addr} {u_STORE_ERROR : Addr} {u_NOT_FOUND : Addr} {cs : Int32} (B : own_base Z n0 h u_DEFAULTCAPACITY_EMPTY_ELEMENTDATA cl_u_DEFAULTCAPACITY_EMPTY_ELEMENTDATA u_DELETED u__SwitchMap_com_example_batchrake_batchrake_Outcome cl_u__SwitchMap_com_example_batchrake_batchrake_Outcome u_CONFLICT u_BAD_REQUEST u_STORE_ERROR u_NOT_FOUND cs) : Exa Z h u_BAD_REQUEST "com/example/batchrake/batchrake/Outcome" := B.2.2.2.2.2.2.2.2.2.2.1
theorem own_b11 {Z : State} {n0 : Nat} {h : Heap} {u_DEFAULTCAPACITY_EMPTY_ELEMENTDATA : Addr} {cl_u_DEFAULTCAPACITY_EMPTY_ELEMENTDATA : Cell} {u_DELETED : Addr} {u__SwitchMap_com_example_batchrake_batchrake_Outcome : Addr} {cl_u__SwitchMap_com_example_batchrake_batchrake_Outcome : Cell} {u_CONFLICT : Addr} {u_BAD_REQUEST : Addr} {u_STORE_ERROR : Addr} {u_NOT_FOUND : Addr} {cs : Int32} (B : own_base Z n0 h u_DEFAULTCAPACITY_EMPTY_ELEMENTDATA cl_u_DEFAULTCAPACITY_EMPTY_ELEMENTDATA u_DELETED u__SwitchMap_com_example_batchrake_batchrake_Outcome cl_u__SwitchMap_com_example_batchrake_batchrake_Outcome u_CONFLICT u_BAD_REQUEST u_STORE_ERROR u_NOT_FOUND cs) : Fld Z h u_BAD_REQUEST "java/lang/Enum" "ordinal" "I" (.int (2 : Int32)) := B.2.2.2.2.2.2.2.2.2.2.2.1
theorem own_b12 {Z : State} {n0 : Nat} {h : Heap} {u_DEFAULTCAPACITY_EMPTY_ELEMENTDATA : Addr} {cl_u_DEFAULTCAPACITY_EMPTY_ELEMENTDATA : Cell} {u_DELETED : Addr} {u__SwitchMap_com_example_batchrake_batchrake_Outcome : Addr} {cl_u__SwitchMap_com_example_batchrake_batchrake_Outcome : Cell} {u_CONFLICT : Addr} {u_BAD_REQUEST : Addr} {u_STORE_ERROR : Addr} {u_NOT_FOUND : Addr} {cs : Int32} (B : own_base Z n0 h u_DEFAULTCAPACITY_EMPTY_ELEMENTDATA cl_u_DEFAULTCAPACITY_EMPTY_ELEMENTDATA u_DELETED u__SwitchMap_com_example_batchrake_batchrake_Outcome cl_u__SwitchMap_com_example_batchrake_batchrake_Outcome u_CONFLICT u_BAD_REQUEST u_STORE_ERROR u_NOT_FOUND cs) : Sta Z h "com/example/batchrake/batchrake/Outcome" "STORE_ERROR" "Lcom/example/batchrake/batchrake/Outcome;" (.ref u_STORE_ERROR) := B.2.2.2.2.2.2.2.2.2.2.2.2.1
theorem own_b13 {Z : State} {n0 : Nat} {h : Heap} {u_DEFAULTCAPACITY_EMPTY_ELEMENTDATA : Addr} {cl_u_DEFAULTCAPACITY_EMPTY_ELEMENTDATA : Cell} {u_DELETED : Addr} {u__SwitchMap_com_example_batchrake_batchrake_Outcome : Addr} {cl_u__SwitchMap_com_example_batchrake_batchrake_Outcome : Cell} {u_CONFLICT : Addr} {u_BAD_REQUEST : Addr} {u_STORE_ERROR : Addr} {u_NOT_FOUND : Addr} {cs : Int32} (B : own_base Z n0 h u_DEFAULTCAPACITY_EMPTY_ELEMENTDATA cl_u_DEFAULTCAPACITY_EMPTY_ELEMENTDATA u_DELETED u__SwitchMap_com_example_batchrake_batchrake_Outcome cl_u__SwitchMap_com_example_batchrake_batchrake_Outcome u_CONFLICT u_BAD_REQUEST u_STORE_ERROR u_NOT_FOUND cs) : Exa Z h u_STORE_ERROR "com/example/batchrake/batchrake/Outcome" := B.2.2.2.2.2.2.2.2.2.2.2.2.2.1
theorem own_b14 {Z : State} {n0 : Nat} {h : Heap} {u_DEFAULTCAPACITY_EMPTY_ELEMENTDATA : Addr} {cl_u_DEFAULTCAPACITY_EMPTY_ELEMENTDATA : Cell} {u_DELETED : Addr} {u__SwitchMap_com_example_batchrake_batchrake_Outcome : Addr} {cl_u__SwitchMap_com_example_batchrake_batchrake_Outcome : Cell} {u_CONFLICT : Addr} {u_BAD_REQUEST : Addr} {u_STORE_ERROR : Addr} {u_NOT_FOUND : Addr} {cs : Int32} (B : own_base Z n0 h u_DEFAULTCAPACITY_EMPTY_ELEMENTDATA cl_u_DEFAULTCAPACITY_EMPTY_ELEMENTDATA u_DELETED u__SwitchMap_com_example_batchrake_batchrake_Outcome cl_u__SwitchMap_com_example_batchrake_batchrake_Outcome u_CONFLICT u_BAD_REQUEST u_STORE_ERROR u_NOT_FOUND cs) : Fld Z h u_STORE_ERROR "java/lang/Enum" "ordinal" "I" (.int (4 : Int32)) := B.2.2.2.2.2.2.2.2.2.2.2.2.2.2.1
theorem own_b15 {Z : State} {n0 : Nat} {h : Heap} {u_DEFAULTCAPACITY_EMPTY_ELEMENTDATA : Addr} {cl_u_DEFAULTCAPACITY_EMPTY_ELEMENTDATA : Cell} {u_DELETED : Addr} {u__SwitchMap_com_example_batchrake_batchrake_Outcome : Addr} {cl_u__SwitchMap_com_example_batchrake_batchrake_Outcome : Cell} {u_CONFLICT : Addr} {u_BAD_REQUEST : Addr} {u_STORE_ERROR : Addr} {u_NOT_FOUND : Addr} {cs : Int32} (B : own_base Z n0 h u_DEFAULTCAPACITY_EMPTY_ELEMENTDATA cl_u_DEFAULTCAPACITY_EMPTY_ELEMENTDATA u_DELETED u__SwitchMap_com_example_batchrake_batchrake_Outcome cl_u__SwitchMap_com_example_batchrake_batchrake_Outcome u_CONFLICT u_BAD_REQUEST u_STORE_ERROR u_NOT_FOUND cs) : Sta Z h "com/example/batchrake/batchrake/Outcome" "NOT_FOUND" "Lcom/example/batchrake/batchrake/Outcome;" (.ref u_NOT_FOUND) := B.2.2.2.2.2.2.2.2.2.2.2.2.2.2.2.1
theorem own_b16 {Z : State} {n0 : Nat} {h : Heap} {u_DEFAULTCAPACITY_EMPTY_ELEMENTDATA : Addr} {cl_u_DEFAULTCAPACITY_EMPTY_ELEMENTDATA : Cell} {u_DELETED : Addr} {u__SwitchMap_com_example_batchrake_batchrake_Outcome : Addr} {cl_u__SwitchMap_com_example_batchrake_batchrake_Outcome : Cell} {u_CONFLICT : Addr} {u_BAD_REQUEST : Addr} {u_STORE_ERROR : Addr} {u_NOT_FOUND : Addr} {cs : Int32} (B : own_base Z n0 h u_DEFAULTCAPACITY_EMPTY_ELEMENTDATA cl_u_DEFAULTCAPACITY_EMPTY_ELEMENTDATA u_DELETED u__SwitchMap_com_example_batchrake_batchrake_Outcome cl_u__SwitchMap_com_example_batchrake_batchrake_Outcome u_CONFLICT u_BAD_REQUEST u_STORE_ERROR u_NOT_FOUND cs) : Exa Z h u_NOT_FOUND "com/example/batchrake/batchrake/Outcome" := B.2.2.2.2.2.2.2.2.2.2.2.2.2.2.2.2.1
theorem own_b17 {Z : State} {n0 : Nat} {h : Heap} {u_DEFAULTCAPACITY_EMPTY_ELEMENTDATA : Addr} {cl_u_DEFAULTCAPACITY_EMPTY_ELEMENTDATA : Cell} {u_DELETED : Addr} {u__SwitchMap_com_example_batchrake_batchrake_Outcome : Addr} {cl_u__SwitchMap_com_example_batchrake_batchrake_Outcome : Cell} {u_CONFLICT : Addr} {u_BAD_REQUEST : Addr} {u_STORE_ERROR : Addr} {u_NOT_FOUND : Addr} {cs : Int32} (B : own_base Z n0 h u_DEFAULTCAPACITY_EMPTY_ELEMENTDATA cl_u_DEFAULTCAPACITY_EMPTY_ELEMENTDATA u_DELETED u__SwitchMap_com_example_batchrake_batchrake_Outcome cl_u__SwitchMap_com_example_batchrake_batchrake_Outcome u_CONFLICT u_BAD_REQUEST u_STORE_ERROR u_NOT_FOUND cs) : Fld Z h u_NOT_FOUND "java/lang/Enum" "ordinal" "I" (.int (1 : Int32)) := B.2.2.2.2.2.2.2.2.2.2.2.2.2.2.2.2.2.1
theorem own_b18 {Z : State} {n0 : Nat} {h : Heap} {u_DEFAULTCAPACITY_EMPTY_ELEMENTDATA : Addr} {cl_u_DEFAULTCAPACITY_EMPTY_ELEMENTDATA : Cell} {u_DELETED : Addr} {u__SwitchMap_com_example_batchrake_batchrake_Outcome : Addr} {cl_u__SwitchMap_com_example_batchrake_batchrake_Outcome : Cell} {u_CONFLICT : Addr} {u_BAD_REQUEST : Addr} {u_STORE_ERROR : Addr} {u_NOT_FOUND : Addr} {cs : Int32} (B : own_base Z n0 h u_DEFAULTCAPACITY_EMPTY_ELEMENTDATA cl_u_DEFAULTCAPACITY_EMPTY_ELEMENTDATA u_DELETED u__SwitchMap_com_example_batchrake_batchrake_Outcome cl_u__SwitchMap_com_example_batchrake_batchrake_Outcome u_CONFLICT u_BAD_REQUEST u_STORE_ERROR u_NOT_FOUND cs) : Arv Z h u_DEFAULTCAPACITY_EMPTY_ELEMENTDATA cl_u_DEFAULTCAPACITY_EMPTY_ELEMENTDATA.cls (.object "java/lang/Object") (0 : Int32) [] .null := B.2.2.2.2.2.2.2.2.2.2.2.2.2.2.2.2.2.2.1
theorem own_b19 {Z : State} {n0 : Nat} {h : Heap} {u_DEFAULTCAPACITY_EMPTY_ELEMENTDATA : Addr} {cl_u_DEFAULTCAPACITY_EMPTY_ELEMENTDATA : Cell} {u_DELETED : Addr} {u__SwitchMap_com_example_batchrake_batchrake_Outcome : Addr} {cl_u__SwitchMap_com_example_batchrake_batchrake_Outcome : Cell} {u_CONFLICT : Addr} {u_BAD_REQUEST : Addr} {u_STORE_ERROR : Addr} {u_NOT_FOUND : Addr} {cs : Int32} (B : own_base Z n0 h u_DEFAULTCAPACITY_EMPTY_ELEMENTDATA cl_u_DEFAULTCAPACITY_EMPTY_ELEMENTDATA u_DELETED u__SwitchMap_com_example_batchrake_batchrake_Outcome cl_u__SwitchMap_com_example_batchrake_batchrake_Outcome u_CONFLICT u_BAD_REQUEST u_STORE_ERROR u_NOT_FOUND cs) : Arv Z h u__SwitchMap_com_example_batchrake_batchrake_Outcome cl_u__SwitchMap_com_example_batchrake_batchrake_Outcome.cls .int (5 : Int32) [(.int (1 : Int32)), (.int (2 : Int32)), (.int (0 : Int32)), (.int (0 : Int32)), (.int (0 : Int32))] (.int (0 : Int32)) := B.2.2.2.2.2.2.2.2.2.2.2.2.2.2.2.2.2.2.2.1
theorem own_b20 {Z : State} {n0 : Nat} {h : Heap} {u_DEFAULTCAPACITY_EMPTY_ELEMENTDATA : Addr} {cl_u_DEFAULTCAPACITY_EMPTY_ELEMENTDATA : Cell} {u_DELETED : Addr} {u__SwitchMap_com_example_batchrake_batchrake_Outcome : Addr} {cl_u__SwitchMap_com_example_batchrake_batchrake_Outcome : Cell} {u_CONFLICT : Addr} {u_BAD_REQUEST : Addr} {u_STORE_ERROR : Addr} {u_NOT_FOUND : Addr} {cs : Int32} (B : own_base Z n0 h u_DEFAULTCAPACITY_EMPTY_ELEMENTDATA cl_u_DEFAULTCAPACITY_EMPTY_ELEMENTDATA u_DELETED u__SwitchMap_com_example_batchrake_batchrake_Outcome cl_u__SwitchMap_com_example_batchrake_batchrake_Outcome u_CONFLICT u_BAD_REQUEST u_STORE_ERROR u_NOT_FOUND cs) : Sta Z h "java/lang/String" "COMPACT_STRINGS" "Z" (.int cs) := B.2.2.2.2.2.2.2.2.2.2.2.2.2.2.2.2.2.2.2.2.1
theorem own_b21 {Z : State} {n0 : Nat} {h : Heap} {u_DEFAULTCAPACITY_EMPTY_ELEMENTDATA : Addr} {cl_u_DEFAULTCAPACITY_EMPTY_ELEMENTDATA : Cell} {u_DELETED : Addr} {u__SwitchMap_com_example_batchrake_batchrake_Outcome : Addr} {cl_u__SwitchMap_com_example_batchrake_batchrake_Outcome : Cell} {u_CONFLICT : Addr} {u_BAD_REQUEST : Addr} {u_STORE_ERROR : Addr} {u_NOT_FOUND : Addr} {cs : Int32} (B : own_base Z n0 h u_DEFAULTCAPACITY_EMPTY_ELEMENTDATA cl_u_DEFAULTCAPACITY_EMPTY_ELEMENTDATA u_DELETED u__SwitchMap_com_example_batchrake_batchrake_Outcome cl_u__SwitchMap_com_example_batchrake_batchrake_Outcome u_CONFLICT u_BAD_REQUEST u_STORE_ERROR u_NOT_FOUND cs) : u_DEFAULTCAPACITY_EMPTY_ELEMENTDATA < n0 := B.2.2.2.2.2.2.2.2.2.2.2.2.2.2.2.2.2.2.2.2.2.1
theorem own_b22 {Z : State} {n0 : Nat} {h : Heap} {u_DEFAULTCAPACITY_EMPTY_ELEMENTDATA : Addr} {cl_u_DEFAULTCAPACITY_EMPTY_ELEMENTDATA : Cell} {u_DELETED : Addr} {u__SwitchMap_com_example_batchrake_batchrake_Outcome : Addr} {cl_u__SwitchMap_com_example_batchrake_batchrake_Outcome : Cell} {u_CONFLICT : Addr} {u_BAD_REQUEST : Addr} {u_STORE_ERROR : Addr} {u_NOT_FOUND : Addr} {cs : Int32} (B : own_base Z n0 h u_DEFAULTCAPACITY_EMPTY_ELEMENTDATA cl_u_DEFAULTCAPACITY_EMPTY_ELEMENTDATA u_DELETED u__SwitchMap_com_example_batchrake_batchrake_Outcome cl_u__SwitchMap_com_example_batchrake_batchrake_Outcome u_CONFLICT u_BAD_REQUEST u_STORE_ERROR u_NOT_FOUND cs) : u__SwitchMap_com_example_batchrake_batchrake_Outcome < n0 := B.2.2.2.2.2.2.2.2.2.2.2.2.2.2.2.2.2.2.2.2.2.2.1
theorem own_b23 {Z : State} {n0 : Nat} {h : Heap} {u_DEFAULTCAPACITY_EMPTY_ELEMENTDATA : Addr} {cl_u_DEFAULTCAPACITY_EMPTY_ELEMENTDATA : Cell} {u_DELETED : Addr} {u__SwitchMap_com_example_batchrake_batchrake_Outcome : Addr} {cl_u__SwitchMap_com_example_batchrake_batchrake_Outcome : Cell} {u_CONFLICT : Addr} {u_BAD_REQUEST : Addr} {u_STORE_ERROR : Addr} {u_NOT_FOUND : Addr} {cs : Int32} (B : own_base Z n0 h u_DEFAULTCAPACITY_EMPTY_ELEMENTDATA cl_u_DEFAULTCAPACITY_EMPTY_ELEMENTDATA u_DELETED u__SwitchMap_com_example_batchrake_batchrake_Outcome cl_u__SwitchMap_com_example_batchrake_batchrake_Outcome u_CONFLICT u_BAD_REQUEST u_STORE_ERROR u_NOT_FOUND cs) : u_DELETED < n0 := B.2.2.2.2.2.2.2.2.2.2.2.2.2.2.2.2.2.2.2.2.2.2.2.1
theorem own_b24 {Z : State} {n0 : Nat} {h : Heap} {u_DEFAULTCAPACITY_EMPTY_ELEMENTDATA : Addr} {cl_u_DEFAULTCAPACITY_EMPTY_ELEMENTDATA : Cell} {u_DELETED : Addr} {u__SwitchMap_com_example_batchrake_batchrake_Outcome : Addr} {cl_u__SwitchMap_com_example_batchrake_batchrake_Outcome : Cell} {u_CONFLICT : Addr} {u_BAD_REQUEST : Addr} {u_STORE_ERROR : Addr} {u_NOT_FOUND : Addr} {cs : Int32} (B : own_base Z n0 h u_DEFAULTCAPACITY_EMPTY_ELEMENTDATA cl_u_DEFAULTCAPACITY_EMPTY_ELEMENTDATA u_DELETED u__SwitchMap_com_example_batchrake_batchrake_Outcome cl_u__SwitchMap_com_example_batchrake_batchrake_Outcome u_CONFLICT u_BAD_REQUEST u_STORE_ERROR u_NOT_FOUND cs) : u_NOT_FOUND < n0 := B.2.2.2.2.2.2.2.2.2.2.2.2.2.2.2.2.2.2.2.2.2.2.2.2.1
theorem own_b25 {Z : State} {n0 : Nat} {h : Heap} {u_DEFAULTCAPACITY_EMPTY_ELEMENTDATA : Addr} {cl_u_DEFAULTCAPACITY_EMPTY_ELEMENTDATA : Cell} {u_DELETED : Addr} {u__SwitchMap_com_example_batchrake_batchrake_Outcome : Addr} {cl_u__SwitchMap_com_example_batchrake_batchrake_Outcome : Cell} {u_CONFLICT : Addr} {u_BAD_REQUEST : Addr} {u_STORE_ERROR : Addr} {u_NOT_FOUND : Addr} {cs : Int32} (B : own_base Z n0 h u_DEFAULTCAPACITY_EMPTY_ELEMENTDATA cl_u_DEFAULTCAPACITY_EMPTY_ELEMENTDATA u_DELETED u__SwitchMap_com_example_batchrake_batchrake_Outcome cl_u__SwitchMap_com_example_batchrake_batchrake_Outcome u_CONFLICT u_BAD_REQUEST u_STORE_ERROR u_NOT_FOUND cs) : u_BAD_REQUEST < n0 := B.2.2.2.2.2.2.2.2.2.2.2.2.2.2.2.2.2.2.2.2.2.2.2.2.2.1
theorem own_b26 {Z : State} {n0 : Nat} {h : Heap} {u_DEFAULTCAPACITY_EMPTY_ELEMENTDATA : Addr} {cl_u_DEFAULTCAPACITY_EMPTY_ELEMENTDATA : Cell} {u_DELETED : Addr} {u__SwitchMap_com_example_batchrake_batchrake_Outcome : Addr} {cl_u__SwitchMap_com_example_batchrake_batchrake_Outcome : Cell} {u_CONFLICT : Addr} {u_BAD_REQUEST : Addr} {u_STORE_ERROR : Addr} {u_NOT_FOUND : Addr} {cs : Int32} (B : own_base Z n0 h u_DEFAULTCAPACITY_EMPTY_ELEMENTDATA cl_u_DEFAULTCAPACITY_EMPTY_ELEMENTDATA u_DELETED u__SwitchMap_com_example_batchrake_batchrake_Outcome cl_u__SwitchMap_com_example_batchrake_batchrake_Outcome u_CONFLICT u_BAD_REQUEST u_STORE_ERROR u_NOT_FOUND cs) : u_CONFLICT < n0 := B.2.2.2.2.2.2.2.2.2.2.2.2.2.2.2.2.2.2.2.2.2.2.2.2.2.2.1
theorem own_b27 {Z : State} {n0 : Nat} {h : Heap} {u_DEFAULTCAPACITY_EMPTY_ELEMENTDATA : Addr} {cl_u_DEFAULTCAPACITY_EMPTY_ELEMENTDATA : Cell} {u_DELETED : Addr} {u__SwitchMap_com_example_batchrake_batchrake_Outcome : Addr} {cl_u__SwitchMap_com_example_batchrake_batchrake_Outcome : Cell} {u_CONFLICT : Addr} {u_BAD_REQUEST : Addr} {u_STORE_ERROR : Addr} {u_NOT_FOUND : Addr} {cs : Int32} (B : own_base Z n0 h u_DEFAULTCAPACITY_EMPTY_ELEMENTDATA cl_u_DEFAULTCAPACITY_EMPTY_ELEMENTDATA u_DELETED u__SwitchMap_com_example_batchrake_batchrake_Outcome cl_u__SwitchMap_com_example_batchrake_batchrake_Outcome u_CONFLICT u_BAD_REQUEST u_STORE_ERROR u_NOT_FOUND cs) : u_STORE_ERROR < n0 := B.2.2.2.2.2.2.2.2.2.2.2.2.2.2.2.2.2.2.2.2.2.2.2.2.2.2.2
theorem own_bext {Z : State} {n0 : Nat} {h h' : Heap} {u_DEFAULTCAPACITY_EMPTY_ELEMENTDATA : Addr} {cl_u_DEFAULTCAPACITY_EMPTY_ELEMENTDATA : Cell} {u_DELETED : Addr} {u__SwitchMap_com_example_batchrake_batchrake_Outcome : Addr} {cl_u__SwitchMap_com_example_batchrake_batchrake_Outcome : Cell} {u_CONFLICT : Addr} {u_BAD_REQUEST : Addr} {u_STORE_ERROR : Addr} {u_NOT_FOUND : Addr} {cs : Int32} (B : own_base Z n0 h u_DEFAULTCAPACITY_EMPTY_ELEMENTDATA cl_u_DEFAULTCAPACITY_EMPTY_ELEMENTDATA u_DELETED u__SwitchMap_com_example_batchrake_batchrake_Outcome cl_u__SwitchMap_com_example_batchrake_batchrake_Outcome u_CONFLICT u_BAD_REQUEST u_STORE_ERROR u_NOT_FOUND cs) (E : Ext h h') : own_base Z n0 h' u_DEFAULTCAPACITY_EMPTY_ELEMENTDATA cl_u_DEFAULTCAPACITY_EMPTY_ELEMENTDATA u_DELETED u__SwitchMap_com_example_batchrake_batchrake_Outcome cl_u__SwitchMap_com_example_batchrake_batchrake_Outcome u_CONFLICT u_BAD_REQUEST u_STORE_ERROR u_NOT_FOUND cs := ⟨(own_b0 B).ext E, (own_b1 B).ext E, (own_b2 B).ext E, (own_b3 B).ext E, (own_b4 B).ext E, (own_b5 B).ext E, (own_b6 B).ext E, (own_b7 B).ext E, (own_b8 B).ext E, (own_b9 B).ext E, (own_b10 B).ext E, (own_b11 B).ext E, (own_b12 B).ext E, (own_b13 B).ext E, (own_b14 B).ext E, (own_b15 B).ext E, (own_b16 B).ext E, (own_b17 B).ext E, (own_b18 B).ext E, (own_b19 B).ext E, (own_b20 B).ext E, own_b21 B, own_b22 B, own_b23 B, own_b24 B, own_b25 B, own_b26 B, own_b27 B⟩
theorem own_bwr {Z : State} {n0 : Nat} {h h' : Heap} {u_DEFAULTCAPACITY_EMPTY_ELEMENTDATA : Addr} {cl_u_DEFAULTCAPACITY_EMPTY_ELEMENTDATA : Cell} {u_DELETED : Addr} {u__SwitchMap_com_example_batchrake_batchrake_Outcome : Addr} {cl_u__SwitchMap_com_example_batchrake_batchrake_Outcome : Cell} {u_CONFLICT : Addr} {u_BAD_REQUEST : Addr} {u_STORE_ERROR : Addr} {u_NOT_FOUND : Addr} {cs : Int32} {a : Addr} {sl : Nat} {v : Value} (B : own_base Z n0 h u_DEFAULTCAPACITY_EMPTY_ELEMENTDATA cl_u_DEFAULTCAPACITY_EMPTY_ELEMENTDATA u_DELETED u__SwitchMap_com_example_batchrake_batchrake_Outcome cl_u__SwitchMap_com_example_batchrake_batchrake_Outcome u_CONFLICT u_BAD_REQUEST u_STORE_ERROR u_NOT_FOUND cs) (W : Wr h h' a sl v) (g : n0 ≤ a) : own_base Z n0 h' u_DEFAULTCAPACITY_EMPTY_ELEMENTDATA cl_u_DEFAULTCAPACITY_EMPTY_ELEMENTDATA u_DELETED u__SwitchMap_com_example_batchrake_batchrake_Outcome cl_u__SwitchMap_com_example_batchrake_batchrake_Outcome u_CONFLICT u_BAD_REQUEST u_STORE_ERROR u_NOT_FOUND cs := ⟨(own_b0 B).wr W, (own_b1 B).wr W, (own_b2 B).wr W, (own_b3 B).wr W, (own_b4 B).wr W, (own_b5 B).other W (Or.inl (Nat.ne_of_lt (Nat.lt_of_lt_of_le (own_b23 B) g))), (own_b6 B).wr W, (own_b7 B).wr W, (own_b8 B).other W (Or.inl (Nat.ne_of_lt (Nat.lt_of_lt_of_le (own_b26 B) g))), (own_b9 B).wr W, (own_b10 B).wr W, (own_b11 B).other W (Or.inl (Nat.ne_of_lt (Nat.lt_of_lt_of_le (own_b25 B) g))), (own_b12 B).wr W, (own_b13 B).wr W, (own_b14 B).other W (Or.inl (Nat.ne_of_lt (Nat.lt_of_lt_of_le (own_b27 B) g))), (own_b15 B).wr W, (own_b16 B).wr W, (own_b17 B).other W (Or.inl (Nat.ne_of_lt (Nat.lt_of_lt_of_le (own_b24 B) g))), (own_b18 B).other W (Nat.ne_of_lt (Nat.lt_of_lt_of_le (own_b21 B) g)), (own_b19 B).other W (Nat.ne_of_lt (Nat.lt_of_lt_of_le (own_b22 B) g)), (own_b20 B).wr W, own_b21 B, own_b22 B, own_b23 B, own_b24 B, own_b25 B, own_b26 B, own_b27 B⟩
theorem own_bkeep {Z : State} {n0 : Nat} {h h' : Heap} {u_DEFAULTCAPACITY_EMPTY_ELEMENTDATA : Addr} {cl_u_DEFAULTCAPACITY_EMPTY_ELEMENTDATA : Cell} {u_DELETED : Addr} {u__SwitchMap_com_example_batchrake_batchrake_Outcome : Addr} {cl_u__SwitchMap_com_example_batchrake_batchrake_Outcome : Cell} {u_CONFLICT : Addr} {u_BAD_REQUEST : Addr} {u_STORE_ERROR : Addr} {u_NOT_FOUND : Addr} {cs : Int32} {ws : List Addr} (B : own_base Z n0 h u_DEFAULTCAPACITY_EMPTY_ELEMENTDATA cl_u_DEFAULTCAPACITY_EMPTY_ELEMENTDATA u_DELETED u__SwitchMap_com_example_batchrake_batchrake_Outcome cl_u__SwitchMap_com_example_batchrake_batchrake_Outcome u_CONFLICT u_BAD_REQUEST u_STORE_ERROR u_NOT_FOUND cs) (K : Keep h h' ws) (g : ∀ x ∈ ws, n0 ≤ x) (q : ∀ x ∈ ws, ∀ c : Cell, h[x]? = some c → c.vm.isStatics = false) : own_base Z n0 h' u_DEFAULTCAPACITY_EMPTY_ELEMENTDATA cl_u_DEFAULTCAPACITY_EMPTY_ELEMENTDATA u_DELETED u__SwitchMap_com_example_batchrake_batchrake_Outcome cl_u__SwitchMap_com_example_batchrake_batchrake_Outcome u_CONFLICT u_BAD_REQUEST u_STORE_ERROR u_NOT_FOUND cs := ⟨own_stakeep (own_b0 B) K q, (own_b1 B).keep K, own_stakeep (own_b2 B) K q, (own_b3 B).keep K, own_stakeep (own_b4 B) K q, (own_b5 B).keep K (fun hm => absurd (g _ hm) (Nat.not_le.mpr (own_b23 B))), own_stakeep (own_b6 B) K q, (own_b7 B).keep K, (own_b8 B).keep K (fun hm => absurd (g _ hm) (Nat.not_le.mpr (own_b26 B))), own_stakeep (own_b9 B) K q, (own_b10 B).keep K, (own_b11 B).keep K (fun hm => absurd (g _ hm) (Nat.not_le.mpr (own_b25 B))), own_stakeep (own_b12 B) K q, (own_b13 B).keep K, (own_b14 B).keep K (fun hm => absurd (g _ hm) (Nat.not_le.mpr (own_b27 B))), own_stakeep (own_b15 B) K q, (own_b16 B).keep K, (own_b17 B).keep K (fun hm => absurd (g _ hm) (Nat.not_le.mpr (own_b24 B))), (own_b18 B).keep K (fun hm => absurd (g _ hm) (Nat.not_le.mpr (own_b21 B))), (own_b19 B).keep K (fun hm => absurd (g _ hm) (Nat.not_le.mpr (own_b22 B))), own_stakeep (own_b20 B) K q, own_b21 B, own_b22 B, own_b23 B, own_b24 B, own_b25 B, own_b26 B, own_b27 B⟩
theorem own_grp (x : Int32) : (((x &&& (2147483647 : Int32)) % (6 : Int32)) = (0 : Int32) ∨ ((x &&& (2147483647 : Int32)) % (6 : Int32)) = (1 : Int32)) ∨ (((x &&& (2147483647 : Int32)) % (6 : Int32)) = (2 : Int32) ∨ ((x &&& (2147483647 : Int32)) % (6 : Int32)) = (3 : Int32) ∨ ((x &&& (2147483647 : Int32)) % (6 : Int32)) = (4 : Int32)) ∨ ((x &&& (2147483647 : Int32)) % (6 : Int32)) = (5 : Int32) := by
  rcases own_mod6 x with h | h | h | h | h | h <;> rw [h] <;> decide
theorem own_gS (z : Int32) (h : z = (0 : Int32) ∨ z = (1 : Int32)) : z < (5 : Int32) ∧ own_fails z = (0 : Int32) := by
  rcases h with rfl | rfl <;> decide
theorem own_gF (z : Int32) (h : z = (2 : Int32) ∨ z = (3 : Int32) ∨ z = (4 : Int32)) : z < (5 : Int32) ∧ ¬ own_fails z = (0 : Int32) := by
  rcases h with rfl | rfl | rfl <;> decide
theorem own_g5 (z : Int32) (h : z = (5 : Int32)) : ¬ z < (5 : Int32) ∧ own_fails z = (0 : Int32) := by
  subst h; decide
theorem pd_17 : parseMethodDescriptor "(I)Z" = some ⟨[.int], some .boolean⟩ := by decide +kernel
theorem pd_18 : parseMethodDescriptor "(Lcom/example/batchrake/batchrake/DeleteReport;)V" = some ⟨[(.object "com/example/batchrake/batchrake/DeleteReport")], none⟩ := by decide +kernel
set_option maxRecDepth 65536 in
set_option maxHeartbeats 40000000 in
theorem sgD00 {p : Program} {l : Launch} {e : Env} {s : State} {m : MethodId} {args : Array Value} {below : List Frame} {meth : Method} {c : Code} {s₁ : State} {locs : List Loc} {vm0 : Vm} {k0 : Nat} {hs0 : Heap} {Z : State} {a0 : Array Value} (hw : ∀ d ∈ tables_1, d.before a0 Z = true) (hEL : EW Z a0 consts_1) (wS : ∀ a ∈ Bundle.stringAtoms, a.before a0 Z = true) (p0_0 : Int32) (p0_1 : Int32) (p0_2 : Int32) (p0_3 : Int32) (zqA : Int32) (zqB : Int32) (zqC : Int32) (zqM : Int32) (ra : Addr) (la : Addr) (da : Int32) (na : Int32) (ma : Int32) (rb : Addr) (lb : Addr) (db : Int32) (nb : Int32) (mb : Int32) (u_DEFAULTCAPACITY_EMPTY_ELEMENTDATA : Addr) (cl_u_DEFAULTCAPACITY_EMPTY_ELEMENTDATA : Cell) (u_DELETED : Addr) (u__SwitchMap_com_example_batchrake_batchrake_Outcome : Addr) (cl_u__SwitchMap_com_example_batchrake_batchrake_Outcome : Cell) (u_CONFLICT : Addr) (u_BAD_REQUEST : Addr) (u_STORE_ERROR : Addr) (u_NOT_FOUND : Addr) (cs : Int32) (mr : Addr) (h0 : Heap) (n0 : Nat) (Z0 : n0 ≤ h0.size) (B0 : own_base Z n0 h0 u_DEFAULTCAPACITY_EMPTY_ELEMENTDATA cl_u_DEFAULTCAPACITY_EMPTY_ELEMENTDATA u_DELETED u__SwitchMap_com_example_batchrake_batchrake_Outcome cl_u__SwitchMap_com_example_batchrake_batchrake_Outcome u_CONFLICT u_BAD_REQUEST u_STORE_ERROR u_NOT_FOUND cs) (AEr : Exa Z h0 ra "com/example/batchrake/batchrake/DeleteReport") (AFf : Fld Z h0 ra "com/example/batchrake/batchrake/DeleteReport" "failures" "Ljava/util/List;" (.ref la)) (AFd : Fld Z h0 ra "com/example/batchrake/batchrake/DeleteReport" "deleted" "I" (.int da)) (AFn : Fld Z h0 ra "com/example/batchrake/batchrake/DeleteReport" "notFound" "I" (.int na)) (AEl : Exa Z h0 la "java/util/ArrayList") (AFm : Fld Z h0 la "java/util/AbstractList" "modCount" "I" (.int ma)) (AFz : Fld Z h0 la "java/util/ArrayList" "size" "I" (.int (0 : Int32))) (AFe : Fld Z h0 la "java/util/ArrayList" "elementData" "[Ljava/lang/Object;" (.ref u_DEFAULTCAPACITY_EMPTY_ELEMENTDATA)) (BEr : Exa Z h0 rb "com/example/batchrake/batchrake/DeleteReport") (BFf : Fld Z h0 rb "com/example/batchrake/batchrake/DeleteReport" "failures" "Ljava/util/List;" (.ref lb)) (BFd : Fld Z h0 rb "com/example/batchrake/batchrake/DeleteReport" "deleted" "I" (.int db)) (BFn : Fld Z h0 rb "com/example/batchrake/batchrake/DeleteReport" "notFound" "I" (.int nb)) (BEl : Exa Z h0 lb "java/util/ArrayList") (BFm : Fld Z h0 lb "java/util/AbstractList" "modCount" "I" (.int mb)) (BFz : Fld Z h0 lb "java/util/ArrayList" "size" "I" (.int (0 : Int32))) (BFe : Fld Z h0 lb "java/util/ArrayList" "elementData" "[Ljava/lang/Object;" (.ref u_DEFAULTCAPACITY_EMPTY_ELEMENTDATA)) (hcs : ¬ (cs = (0 : Int32))) (hmir : Mir Z "[Ljava/lang/Object;" mr) (ne_ra_la : ra ≠ la) (ne_ra_rb : ra ≠ rb) (ne_ra_lb : ra ≠ lb) (ne_la_rb : la ≠ rb) (ne_la_lb : la ≠ lb) (ne_rb_lb : rb ≠ lb) (hA : own_fails zqA = (0 : Int32) ∧ own_fails zqB = (0 : Int32)) (hB : own_fails zqC = (0 : Int32)) (g_ra : n0 ≤ ra) (g_la : n0 ≤ la) (g_rb : n0 ≤ rb) (g_lb : n0 ≤ lb)
    (X0 : Stand p l e room_1 (s.setVm vm0) m args below meth c s₁ locs 34 800) (hx : p.tables.exec = Jvm.exec) (hZ : Z.Warmed39 (s.setVm vm0).vm) (hby : c.code = code) (hml : c.maxLocals = 12) (hown : (s.setVm vm0).vm.findClass "com/example/batchrake/batchrake/DeleteReportHasFailuresPinLaw" = some m.cls) (hret : meth.sig.returnType = some .boolean) (hlk : meth.locks = false) (e0 : s₁.heap = h0) (N0 : Fr n0 locs) (hh : s.heap = hs0) (hS : s.Since vm0 k0) (hk : k0 ≤ h0.size) (hCR : CHr Z consts_1 s.vm hs0 vm0 h0) :
    ∃ t o, Steps p.tables e below (s₁.setTop (mkF m 118 #[.val (.int p0_0), .val (.int p0_1), .val (.int p0_2), .val (.int p0_3), .val (.int zqA), .val (.int zqB), .val (.int zqC), .val (.int zqM), .val (.ref ra), .val (.ref rb), .unset, .unset] [])) t ∧ t.status = .running ∧ Ended t below o ∧ ∃ v L, o = .returned v ∧ (v = some (.int (1 : Int32)) ∧ Fr n0 L) ∧ CHr Z consts_1 s.vm s.heap t.vm t.heap ∧ ReturnedEndW s o t L 48 1216 := by
  have pre0 : ∀ t, Steps p.tables e below (s₁.setTop (mkF m 118 #[.val (.int p0_0), .val (.int p0_1), .val (.int p0_2), .val (.int p0_3), .val (.int zqA), .val (.int zqB), .val (.int zqC), .val (.int zqM), .val (.ref ra), .val (.ref rb), .unset, .unset] [])) t → Steps p.tables e below (s₁.setTop (mkF m 118 #[.val (.int p0_0), .val (.int p0_1), .val (.int p0_2), .val (.int p0_3), .val (.int zqA), .val (.int zqB), .val (.int zqC), .val (.int zqM), .val (.ref ra), .val (.ref rb), .unset, .unset] [])) t := fun t k => k
  have k1 : ∀ t, Steps p.tables e below (s₁.setTop (mkF m 120 #[.val (.int p0_0), .val (.int p0_1), .val (.int p0_2), .val (.int p0_3), .val (.int zqA), .val (.int zqB), .val (.int zqC), .val (.int zqM), .val (.ref ra), .val (.ref rb), .unset, .unset] [(.int zqM)])) t → Steps p.tables e below (s₁.setTop (mkF m 118 #[.val (.int p0_0), .val (.int p0_1), .val (.int p0_2), .val (.int p0_3), .val (.int zqA), .val (.int zqB), .val (.int zqC), .val (.int zqM), .val (.ref ra), .val (.ref rb), .unset, .unset] [])) t := by
    intro t k
    refine pre0 t ?_
    refine XS.iload X0.here hx rfl (hb hby at_118) rfl ?_
    exact k
  by_cases hc120_2 : zqM = (0 : Int32)
  · skip
    obtain ⟨_, _, ⟨T3, L3, k3, n3⟩, -, X3, ⟨Lc3, hQ3, l3, y3, z3⟩, st3⟩ := Jvm.LawKit.callS X0 hx (y := (⟨"com/example/batchrake/batchrake/DeleteReportHasFailuresPinLaw", "fails", "(I)Z"⟩ : MethodName)) hown (mvT hZ (wd hw 196 rfl)) (mvT hZ (wd hw 197 rfl)) (mvT hZ (wd hw 53 rfl)) (mvT hZ (wd hw 198 rfl)) (by decide) (backOf (W := 0) (rm13 l Z a0 hw [] zqC h0 n0 Z0 ) hZ (wd hw 198 rfl) (wd hw 53 rfl) (by decide) (by decide)) (g := (mkF m 132 #[.val (.int p0_0), .val (.int p0_1), .val (.int p0_2), .val (.int p0_3), .val (.int zqA), .val (.int zqB), .val (.int zqC), .val (.int zqM), .val (.ref ra), .val (.ref rb), .unset, .unset] [(.int zqC)])) rfl (by rw [hml]; rfl) (argsL := [(.int zqC)]) (rest := []) (lenOf pd_17 rfl) rfl (by show 2 * 0 + _ ≤ _; exact Nat.le_of_eq rfl) (hb hby at_132) (fun _ _ => ⟨rfl, e0, (by decide : 34 + 0 ≤ _), (by decide : 800 + 0 ≤ _)⟩)
    dsimp only [Pt.U, Pt.locs, Pt.cells, Pt.slots] at X3 l3 y3 z3 st3 hQ3
    rw [l3, y3, z3] at X3
    obtain ⟨rfl, N3q, eh3⟩ := hQ3
    have N3 := Fr.app N0 N3q
    obtain ⟨_, _, ⟨T4, L4, k4, n4⟩, -, X4, ⟨Lc4, hQ4, l4, y4, z4⟩, st4⟩ := Jvm.LawKit.callS X3 hx (y := (⟨"com/example/batchrake/batchrake/DeleteReportHasFailuresPinLaw", "fails", "(I)Z"⟩ : MethodName)) hown (mvT hZ (wd hw 196 rfl)) (mvT hZ (wd hw 197 rfl)) (mvT hZ (wd hw 53 rfl)) (mvT hZ (wd hw 198 rfl)) (by decide) (backOf (W := 0) (rm13 l Z a0 hw [] zqA h0 n0 Z0 ) hZ (wd hw 198 rfl) (wd hw 53 rfl) (by decide) (by decide)) (g := (mkF m 139 #[.val (.int p0_0), .val (.int p0_1), .val (.int p0_2), .val (.int p0_3), .val (.int zqA), .val (.int zqB), .val (.int zqC), .val (.int zqM), .val (.ref ra), .val (.ref rb), .val (.int (own_fails zqC)), .unset] [(.int zqA)])) rfl (by rw [hml]; rfl) (argsL := [(.int zqA)]) (rest := []) (lenOf pd_17 rfl) rfl (by show 2 * 0 + _ ≤ _; exact Nat.le_of_eq rfl) (hb hby at_139) (fun _ _ => ⟨rfl, eh3, (by decide : 34 + 0 ≤ _), (by decide : 800 + 0 ≤ _)⟩)
    dsimp only [Pt.U, Pt.locs, Pt.cells, Pt.slots] at X4 l4 y4 z4 st4 hQ4
    rw [l4, y4, z4] at X4
    obtain ⟨rfl, N4q, eh4⟩ := hQ4
    have N4 := Fr.app N3 N4q
    obtain ⟨_, _, ⟨T5, L5, k5, n5⟩, -, X5, ⟨Lc5, hQ5, l5, y5, z5⟩, st5⟩ := Jvm.LawKit.callS X4 hx (y := (⟨"com/example/batchrake/batchrake/DeleteReportHasFailuresPinLaw", "fails", "(I)Z"⟩ : MethodName)) hown (mvT hZ (wd hw 196 rfl)) (mvT hZ (wd hw 197 rfl)) (mvT hZ (wd hw 53 rfl)) (mvT hZ (wd hw 198 rfl)) (by decide) (backOf (W := 0) (rm13 l Z a0 hw [] zqB h0 n0 Z0 ) hZ (wd hw 198 rfl) (wd hw 53 rfl) (by decide) (by decide)) (g := (mkF m 147 #[.val (.int p0_0), .val (.int p0_1), .val (.int p0_2), .val (.int p0_3), .val (.int zqA), .val (.int zqB), .val (.int zqC), .val (.int zqM), .val (.ref ra), .val (.ref rb), .val (.int (own_fails zqC)), .unset] [(.int zqB)])) rfl (by rw [hml]; rfl) (argsL := [(.int zqB)]) (rest := []) (lenOf pd_17 rfl) rfl (by show 2 * 0 + _ ≤ _; exact Nat.le_of_eq rfl) (hb hby at_147) (fun _ _ => ⟨rfl, eh4, (by decide : 34 + 0 ≤ _), (by decide : 800 + 0 ≤ _)⟩)
    dsimp only [Pt.U, Pt.locs, Pt.cells, Pt.slots] at X5 l5 y5 z5 st5 hQ5
    rw [l5, y5, z5] at X5
    obtain ⟨rfl, N5q, eh5⟩ := hQ5
    have N5 := Fr.app N4 N5q
    obtain ⟨cq6, kq6, q6a, q6b, q6c⟩ := isOf hZ eh5 AEr
    obtain ⟨_, _, ⟨T6, L6, k6, n6⟩, -, X6, ⟨Lc6, hQ6, l6, y6, z6⟩, st6⟩ := X5.virtualBack hx (y := (⟨"com/example/batchrake/batchrake/DeleteReport", "hasFailures", "()Z"⟩ : MethodName)) (z := (⟨"com/example/batchrake/batchrake/DeleteReport", "hasFailures", "()Z"⟩ : MethodName)) hown (mvT hZ (wd hw 199 rfl)) (mvT hZ (wd hw 200 rfl)) (notFace_of_selects (args := #[]) (mvT hZ (wd hw 202 rfl))) (mvT hZ (wd hw 202 rfl)) (mvT hZ (wd hw 201 rfl)) (by decide) (backOf (W := 0) (rm43 l Z a0 hw [] ra la h0 n0 Z0 AFf AEl AFz) hZ (wd hw 203 rfl) (wd hw 3 rfl) (by decide) (by decide)) q6a q6c (g := (mkF m 172 #[.val (.int p0_0), .val (.int p0_1), .val (.int p0_2), .val (.int p0_3), .val (.int zqA), .val (.int zqB), .val (.int zqC), .val (.int zqM), .val (.ref ra), .val (.ref rb), .val (.int (own_fails zqC)), .val (.int (0 : Int32))] [(.ref ra)])) rfl (by rw [hml]; rfl) (Steps.refl _) (argsL := []) (rest := []) (lenOf pd_16 rfl) rfl (by show 2 * 0 + _ ≤ _; exact Nat.le_of_eq rfl) (hb hby at_172) (fun _ _ => ⟨rfl, eh5, (by decide : 34 + 0 ≤ _), (by decide : 800 + 0 ≤ _)⟩)
    dsimp only [Pt.U, Pt.locs, Pt.cells, Pt.slots] at X6 l6 y6 z6 st6 hQ6
    rw [l6, y6, z6] at X6
    obtain ⟨rfl, N6q, eh6⟩ := hQ6
    have N6 := Fr.app N5 N6q
    obtain ⟨cq7, kq7, q7a, q7b, q7c⟩ := isOf hZ eh6 BEr
    obtain ⟨_, _, ⟨T7, L7, k7, n7⟩, -, X7, ⟨Lc7, hQ7, l7, y7, z7⟩, st7⟩ := X6.virtualBack hx (y := (⟨"com/example/batchrake/batchrake/DeleteReport", "hasFailures", "()Z"⟩ : MethodName)) (z := (⟨"com/example/batchrake/batchrake/DeleteReport", "hasFailures", "()Z"⟩ : MethodName)) hown (mvT hZ (wd hw 199 rfl)) (mvT hZ (wd hw 200 rfl)) (notFace_of_selects (args := #[]) (mvT hZ (wd hw 202 rfl))) (mvT hZ (wd hw 202 rfl)) (mvT hZ (wd hw 201 rfl)) (by decide) (backOf (W := 0) (rm43 l Z a0 hw [] rb lb h0 n0 Z0 BFf BEl BFz) hZ (wd hw 203 rfl) (wd hw 3 rfl) (by decide) (by decide)) q7a q7c (g := (mkF m 182 #[.val (.int p0_0), .val (.int p0_1), .val (.int p0_2), .val (.int p0_3), .val (.int zqA), .val (.int zqB), .val (.int zqC), .val (.int zqM), .val (.ref ra), .val (.ref rb), .val (.int (own_fails zqC)), .val (.int (0 : Int32))] [(.ref rb)])) rfl (by rw [hml]; rfl) (Steps.refl _) (argsL := []) (rest := []) (lenOf pd_16 rfl) rfl (by show 2 * 0 + _ ≤ _; exact Nat.le_of_eq rfl) (hb hby at_182) (fun _ _ => ⟨rfl, eh6, (by decide : 34 + 0 ≤ _), (by decide : 800 + 0 ≤ _)⟩)
    dsimp only [Pt.U, Pt.locs, Pt.cells, Pt.slots] at X7 l7 y7 z7 st7 hQ7
    rw [l7, y7, z7] at X7
    obtain ⟨rfl, N7q, eh7⟩ := hQ7
    have N7 := Fr.app N6 N7q
    have k8 : ∀ t, Steps p.tables e below (T7.setTop (mkF m 195 #[.val (.int p0_0), .val (.int p0_1), .val (.int p0_2), .val (.int p0_3), .val (.int zqA), .val (.int zqB), .val (.int zqC), .val (.int zqM), .val (.ref ra), .val (.ref rb), .val (.int (own_fails zqC)), .val (.int (0 : Int32))] [(.int (1 : Int32))])) t → Steps p.tables e below (s₁.setTop (mkF m 118 #[.val (.int p0_0), .val (.int p0_1), .val (.int p0_2), .val (.int p0_3), .val (.int zqA), .val (.int zqB), .val (.int zqC), .val (.int zqM), .val (.ref ra), .val (.ref rb), .unset, .unset] [])) t := by
      intro t k
      refine k1 t ?_
      refine XS.ifYes X0.here hx rfl (pc0 := 120) (pc' := 130) rfl (hb hby at_120) rfl ((if0 _ _).trans (teq hc120_2).1) (by decide) (by decide) ?_
      refine XS.iload X0.here hx rfl (hb hby at_130) rfl ?_
      refine st3 _ ?_
      refine XS.istore X3.here hx rfl (hb hby at_135) rfl (l' := #[.val (.int p0_0), .val (.int p0_1), .val (.int p0_2), .val (.int p0_3), .val (.int zqA), .val (.int zqB), .val (.int zqC), .val (.int zqM), .val (.ref ra), .val (.ref rb), .val (.int (own_fails zqC)), .unset]) rfl ?_
      refine XS.iload X3.here hx rfl (hb hby at_137) rfl ?_
      refine st4 _ ?_
      refine XS.ifNo X4.here hx rfl (hb hby at_142) rfl ((if0 _ _).trans (teq hA.1).2) ?_
      refine XS.iload X4.here hx rfl (hb hby at_145) rfl ?_
      refine st5 _ ?_
      refine XS.ifNo X5.here hx rfl (hb hby at_150) rfl ((if0 _ _).trans (teq hA.2).2) ?_
      refine XS.iload X5.here hx rfl (hb hby at_153) rfl ?_
      refine XS.ifYes X5.here hx rfl (pc0 := 155) (pc' := 167) rfl (hb hby at_155) rfl ((if0 _ _).trans (teq hc120_2).1) (by decide) (by decide) ?_
      show Steps p.tables e below (T5.setTop (mkF m 167 #[.val (.int p0_0), .val (.int p0_1), .val (.int p0_2), .val (.int p0_3), .val (.int zqA), .val (.int zqB), .val (.int zqC), .val (.int zqM), .val (.ref ra), .val (.ref rb), .val (.int (own_fails zqC)), .unset] [])) _
      refine XS.iconst X5.here hx rfl (hb hby at_167) ?_
      refine XS.istore X5.here hx rfl (hb hby at_168) rfl (l' := #[.val (.int p0_0), .val (.int p0_1), .val (.int p0_2), .val (.int p0_3), .val (.int zqA), .val (.int zqB), .val (.int zqC), .val (.int zqM), .val (.ref ra), .val (.ref rb), .val (.int (own_fails zqC)), .val (.int (0 : Int32))]) rfl ?_
      refine XS.aload X5.here hx rfl (hb hby at_170) rfl rfl ?_
      refine st6.trans ?_
      refine XS.iload X6.here hx rfl (hb hby at_175) rfl ?_
      refine XS.icmpNo X6.here hx rfl (hb hby at_177) rfl (teq (by decide : (0 : Int32) = (0 : Int32))).2 ?_
      refine XS.aload X6.here hx rfl (hb hby at_180) rfl rfl ?_
      refine st7.trans ?_
      refine XS.iload X7.here hx rfl (hb hby at_185) rfl ?_
      refine XS.icmpNo X7.here hx rfl (hb hby at_187) rfl (teq hB.symm).2 ?_
      refine XS.iconst X7.here hx rfl (hb hby at_190) ?_
      refine XS.goto X7.here hx rfl (pc0 := 191) (pc' := 195) rfl (hb hby at_191) (by decide) (by decide) ?_
      exact k
    obtain ⟨fs, hr, hrun, hended, hE1, hE2, hE3, hE4⟩ := X7.leaveW hS (by rw [eh7]; exact hk) (v := some (.int (1 : Int32))) (fun h => by rw [hret] at h; cases h)
    have hCE := hCR.trans (CHv.at X7 hZ hEL hCR.1)
    refine ⟨_, _, k8 _ ?_, hrun, hended, _, _, rfl, ?_, (by show CHr Z consts_1 s.vm s.heap T7.vm T7.heap; rw [hh, eh7]; exact hCE), ⟨_, rfl⟩, hE2, hE3, hE4.mono (by decide) (by decide)⟩
    · exact retN X7 hx (t := .boolean) hret (by simp) (hb hby at_195) hr
    · skip
      exact ⟨rfl, N7⟩
  · skip
    obtain ⟨cq9, kq9, q9a, q9b, q9c⟩ := isOf hZ e0 AEr
    obtain ⟨_, _, ⟨T9, L9, k9, n9⟩, -, X9, ⟨Lc9, hQ9, l9, y9, z9⟩, st9⟩ := X0.virtualBack hx (y := (⟨"com/example/batchrake/batchrake/DeleteReport", "add", "(Lcom/example/batchrake/batchrake/DeleteReport;)V"⟩ : MethodName)) (z := (⟨"com/example/batchrake/batchrake/DeleteReport", "add", "(Lcom/example/batchrake/batchrake/DeleteReport;)V"⟩ : MethodName)) hown (mvT hZ (wd hw 149 rfl)) (mvT hZ (wd hw 150 rfl)) (notFace_of_selects (args := #[]) (mvT hZ (wd hw 152 rfl))) (mvT hZ (wd hw 152 rfl)) (mvT hZ (wd hw 151 rfl)) (by decide) (backOf (W := 0) (rm32 l Z a0 hw [] ra rb la da na ma lb db nb mb u_DEFAULTCAPACITY_EMPTY_ELEMENTDATA cl_u_DEFAULTCAPACITY_EMPTY_ELEMENTDATA mr h0 n0 Z0 (own_b0 B0) (own_b18 B0) (own_b1 B0) AEr AFf AFd AFn AEl AFm AFz AFe BEr BFf BFd BFn BEl BFm BFz BFe hmir (Nat.ne_of_lt (Nat.lt_of_lt_of_le (own_b21 B0) g_la)) (Ne.symm ne_ra_la) (Ne.symm ne_ra_rb) (Ne.symm ne_ra_lb) (Nat.ne_of_lt (Nat.lt_of_lt_of_le (own_b21 B0) g_ra)) g_ra g_la) hZ (wd hw 153 rfl) (wd hw 3 rfl) (by decide) (by decide)) q9a q9c (g := (mkF m 127 #[.val (.int p0_0), .val (.int p0_1), .val (.int p0_2), .val (.int p0_3), .val (.int zqA), .val (.int zqB), .val (.int zqC), .val (.int zqM), .val (.ref ra), .val (.ref rb), .unset, .unset] [(.ref rb), (.ref ra)])) rfl (by rw [hml]; rfl) (Steps.refl _) (argsL := [(.ref rb)]) (rest := []) (lenOf pd_18 rfl) rfl (by show 2 * 0 + _ ≤ _; exact Nat.le_of_eq rfl) (hb hby at_127) (fun _ _ => ⟨rfl, e0, (by decide : 34 + 1 ≤ _), (by decide : 800 + 0 ≤ _)⟩)
    dsimp only [Pt.U, Pt.locs, Pt.cells, Pt.slots] at X9 l9 y9 z9 st9 hQ9
    rw [l9, y9, z9] at X9
    obtain ⟨rfl, N9q, Kc9, G9_0, G9_1, G9_2, G9_3⟩ := hQ9
    have Zs9 : n0 ≤ T9.heap.size := Nat.le_trans Z0 Kc9.1
    have hCR := hCR.trans (CHr.keep Kc9 (sfS own_safe0 (sfS own_safe0 sf0)) hCR.1)
    have hk := Nat.le_trans hk Kc9.1
    have F10 := own_bkeep B0 Kc9 (allS g_ra (allS g_la all0)) (allS (own_nsE AEr) (allS (own_nsE AEl) all0))
    have F15 := BEr.keep Kc9
    have F16 := BFf.keep Kc9 (ninS (Ne.symm ne_ra_rb) (ninS (Ne.symm ne_la_rb) nin0))
    have F17 := BFd.keep Kc9 (ninS (Ne.symm ne_ra_rb) (ninS (Ne.symm ne_la_rb) nin0))
    have F18 := BFn.keep Kc9 (ninS (Ne.symm ne_ra_rb) (ninS (Ne.symm ne_la_rb) nin0))
    have F19 := BEl.keep Kc9
    have F20 := BFm.keep Kc9 (ninS (Ne.symm ne_ra_lb) (ninS (Ne.symm ne_la_lb) nin0))
    have F21 := BFz.keep Kc9 (ninS (Ne.symm ne_ra_lb) (ninS (Ne.symm ne_la_lb) nin0))
    have F22 := BFe.keep Kc9 (ninS (Ne.symm ne_ra_lb) (ninS (Ne.symm ne_la_lb) nin0))
    have N9 := Fr.app N0 N9q
    obtain ⟨_, _, ⟨T23, L23, k23, n23⟩, -, X23, ⟨Lc23, hQ23, l23, y23, z23⟩, st23⟩ := Jvm.LawKit.callS X9 hx (y := (⟨"com/example/batchrake/batchrake/DeleteReportHasFailuresPinLaw", "fails", "(I)Z"⟩ : MethodName)) hown (mvT hZ (wd hw 196 rfl)) (mvT hZ (wd hw 197 rfl)) (mvT hZ (wd hw 53 rfl)) (mvT hZ (wd hw 198 rfl)) (by decide) (backOf (W := 0) (rm13 l Z a0 hw [] zqC T9.heap n0 Zs9 ) hZ (wd hw 198 rfl) (wd hw 53 rfl) (by decide) (by decide)) (g := (mkF m 132 #[.val (.int p0_0), .val (.int p0_1), .val (.int p0_2), .val (.int p0_3), .val (.int zqA), .val (.int zqB), .val (.int zqC), .val (.int zqM), .val (.ref ra), .val (.ref rb), .unset, .unset] [(.int zqC)])) rfl (by rw [hml]; rfl) (argsL := [(.int zqC)]) (rest := []) (lenOf pd_17 rfl) rfl (by show 2 * 0 + _ ≤ _; exact Nat.le_of_eq rfl) (hb hby at_132) (fun _ _ => ⟨rfl, rfl, (by decide : 35 + 0 ≤ _), (by decide : 800 + 0 ≤ _)⟩)
    dsimp only [Pt.U, Pt.locs, Pt.cells, Pt.slots] at X23 l23 y23 z23 st23 hQ23
    rw [l23, y23, z23] at X23
    obtain ⟨rfl, N23q, eh23⟩ := hQ23
    have N23 := Fr.app N9 N23q
    obtain ⟨_, _, ⟨T24, L24, k24, n24⟩, -, X24, ⟨Lc24, hQ24, l24, y24, z24⟩, st24⟩ := Jvm.LawKit.callS X23 hx (y := (⟨"com/example/batchrake/batchrake/DeleteReportHasFailuresPinLaw", "fails", "(I)Z"⟩ : MethodName)) hown (mvT hZ (wd hw 196 rfl)) (mvT hZ (wd hw 197 rfl)) (mvT hZ (wd hw 53 rfl)) (mvT hZ (wd hw 198 rfl)) (by decide) (backOf (W := 0) (rm13 l Z a0 hw [] zqA T9.heap n0 Zs9 ) hZ (wd hw 198 rfl) (wd hw 53 rfl) (by decide) (by decide)) (g := (mkF m 139 #[.val (.int p0_0), .val (.int p0_1), .val (.int p0_2), .val (.int p0_3), .val (.int zqA), .val (.int zqB), .val (.int zqC), .val (.int zqM), .val (.ref ra), .val (.ref rb), .val (.int (own_fails zqC)), .unset] [(.int zqA)])) rfl (by rw [hml]; rfl) (argsL := [(.int zqA)]) (rest := []) (lenOf pd_17 rfl) rfl (by show 2 * 0 + _ ≤ _; exact Nat.le_of_eq rfl) (hb hby at_139) (fun _ _ => ⟨rfl, eh23, (by decide : 35 + 0 ≤ _), (by decide : 800 + 0 ≤ _)⟩)
    dsimp only [Pt.U, Pt.locs, Pt.cells, Pt.slots] at X24 l24 y24 z24 st24 hQ24
    rw [l24, y24, z24] at X24
    obtain ⟨rfl, N24q, eh24⟩ := hQ24
    have N24 := Fr.app N23 N24q
    obtain ⟨_, _, ⟨T25, L25, k25, n25⟩, -, X25, ⟨Lc25, hQ25, l25, y25, z25⟩, st25⟩ := Jvm.LawKit.callS X24 hx (y := (⟨"com/example/batchrake/batchrake/DeleteReportHasFailuresPinLaw", "fails", "(I)Z"⟩ : MethodName)) hown (mvT hZ (wd hw 196 rfl)) (mvT hZ (wd hw 197 rfl)) (mvT hZ (wd hw 53 rfl)) (mvT hZ (wd hw 198 rfl)) (by decide) (backOf (W := 0) (rm13 l Z a0 hw [] zqB T9.heap n0 Zs9 ) hZ (wd hw 198 rfl) (wd hw 53 rfl) (by decide) (by decide)) (g := (mkF m 147 #[.val (.int p0_0), .val (.int p0_1), .val (.int p0_2), .val (.int p0_3), .val (.int zqA), .val (.int zqB), .val (.int zqC), .val (.int zqM), .val (.ref ra), .val (.ref rb), .val (.int (own_fails zqC)), .unset] [(.int zqB)])) rfl (by rw [hml]; rfl) (argsL := [(.int zqB)]) (rest := []) (lenOf pd_17 rfl) rfl (by show 2 * 0 + _ ≤ _; exact Nat.le_of_eq rfl) (hb hby at_147) (fun _ _ => ⟨rfl, eh24, (by decide : 35 + 0 ≤ _), (by decide : 800 + 0 ≤ _)⟩)
    dsimp only [Pt.U, Pt.locs, Pt.cells, Pt.slots] at X25 l25 y25 z25 st25 hQ25
    rw [l25, y25, z25] at X25
    obtain ⟨rfl, N25q, eh25⟩ := hQ25
    have N25 := Fr.app N24 N25q
    obtain ⟨cq26, kq26, q26a, q26b, q26c⟩ := isOf hZ eh25 G9_0
    obtain ⟨_, _, ⟨T26, L26, k26, n26⟩, -, X26, ⟨Lc26, hQ26, l26, y26, z26⟩, st26⟩ := X25.virtualBack hx (y := (⟨"com/example/batchrake/batchrake/DeleteReport", "hasFailures", "()Z"⟩ : MethodName)) (z := (⟨"com/example/batchrake/batchrake/DeleteReport", "hasFailures", "()Z"⟩ : MethodName)) hown (mvT hZ (wd hw 199 rfl)) (mvT hZ (wd hw 200 rfl)) (notFace_of_selects (args := #[]) (mvT hZ (wd hw 202 rfl))) (mvT hZ (wd hw 202 rfl)) (mvT hZ (wd hw 201 rfl)) (by decide) (backOf (W := 0) (rm43 l Z a0 hw [] ra la T9.heap n0 Zs9 G9_1 G9_2 G9_3) hZ (wd hw 203 rfl) (wd hw 3 rfl) (by decide) (by decide)) q26a q26c (g := (mkF m 172 #[.val (.int p0_0), .val (.int p0_1), .val (.int p0_2), .val (.int p0_3), .val (.int zqA), .val (.int zqB), .val (.int zqC), .val (.int zqM), .val (.ref ra), .val (.ref rb), .val (.int (own_fails zqC)), .val (.int (0 : Int32))] [(.ref ra)])) rfl (by rw [hml]; rfl) (Steps.refl _) (argsL := []) (rest := []) (lenOf pd_16 rfl) rfl (by show 2 * 0 + _ ≤ _; exact Nat.le_of_eq rfl) (hb hby at_172) (fun _ _ => ⟨rfl, eh25, (by decide : 35 + 0 ≤ _), (by decide : 800 + 0 ≤ _)⟩)
    dsimp only [Pt.U, Pt.locs, Pt.cells, Pt.slots] at X26 l26 y26 z26 st26 hQ26
    rw [l26, y26, z26] at X26
    obtain ⟨rfl, N26q, eh26⟩ := hQ26
    have N26 := Fr.app N25 N26q
    obtain ⟨cq27, kq27, q27a, q27b, q27c⟩ := isOf hZ eh26 F15
    obtain ⟨_, _, ⟨T27, L27, k27, n27⟩, -, X27, ⟨Lc27, hQ27, l27, y27, z27⟩, st27⟩ := X26.virtualBack hx (y := (⟨"com/example/batchrake/batchrake/DeleteReport", "hasFailures", "()Z"⟩ : MethodName)) (z := (⟨"com/example/batchrake/batchrake/DeleteReport", "hasFailures", "()Z"⟩ : MethodName)) hown (mvT hZ (wd hw 199 rfl)) (mvT hZ (wd hw 200 rfl)) (notFace_of_selects (args := #[]) (mvT hZ (wd hw 202 rfl))) (mvT hZ (wd hw 202 rfl)) (mvT hZ (wd hw 201 rfl)) (by decide) (backOf (W := 0) (rm43 l Z a0 hw [] rb lb T9.heap n0 Zs9 F16 F19 F21) hZ (wd hw 203 rfl) (wd hw 3 rfl) (by decide) (by decide)) q27a q27c (g := (mkF m 182 #[.val (.int p0_0), .val (.int p0_1), .val (.int p0_2), .val (.int p0_3), .val (.int zqA), .val (.int zqB), .val (.int zqC), .val (.int zqM), .val (.ref ra), .val (.ref rb), .val (.int (own_fails zqC)), .val (.int (0 : Int32))] [(.ref rb)])) rfl (by rw [hml]; rfl) (Steps.refl _) (argsL := []) (rest := []) (lenOf pd_16 rfl) rfl (by show 2 * 0 + _ ≤ _; exact Nat.le_of_eq rfl) (hb hby at_182) (fun _ _ => ⟨rfl, eh26, (by decide : 35 + 0 ≤ _), (by decide : 800 + 0 ≤ _)⟩)
    dsimp only [Pt.U, Pt.locs, Pt.cells, Pt.slots] at X27 l27 y27 z27 st27 hQ27
    rw [l27, y27, z27] at X27
    obtain ⟨rfl, N27q, eh27⟩ := hQ27
    have N27 := Fr.app N26 N27q
    have k28 : ∀ t, Steps p.tables e below (T27.setTop (mkF m 195 #[.val (.int p0_0), .val (.int p0_1), .val (.int p0_2), .val (.int p0_3), .val (.int zqA), .val (.int zqB), .val (.int zqC), .val (.int zqM), .val (.ref ra), .val (.ref rb), .val (.int (own_fails zqC)), .val (.int (0 : Int32))] [(.int (1 : Int32))])) t → Steps p.tables e below (s₁.setTop (mkF m 118 #[.val (.int p0_0), .val (.int p0_1), .val (.int p0_2), .val (.int p0_3), .val (.int zqA), .val (.int zqB), .val (.int zqC), .val (.int zqM), .val (.ref ra), .val (.ref rb), .unset, .unset] [])) t := by
      intro t k
      refine k1 t ?_
      refine XS.ifNo X0.here hx rfl (hb hby at_120) rfl ((if0 _ _).trans (feq hc120_2).1) ?_
      refine XS.aload X0.here hx rfl (hb hby at_123) rfl rfl ?_
      refine XS.aload X0.here hx rfl (hb hby at_125) rfl rfl ?_
      refine st9.trans ?_
      refine XS.iload X9.here hx rfl (hb hby at_130) rfl ?_
      refine st23 _ ?_
      refine XS.istore X23.here hx rfl (hb hby at_135) rfl (l' := #[.val (.int p0_0), .val (.int p0_1), .val (.int p0_2), .val (.int p0_3), .val (.int zqA), .val (.int zqB), .val (.int zqC), .val (.int zqM), .val (.ref ra), .val (.ref rb), .val (.int (own_fails zqC)), .unset]) rfl ?_
      refine XS.iload X23.here hx rfl (hb hby at_137) rfl ?_
      refine st24 _ ?_
      refine XS.ifNo X24.here hx rfl (hb hby at_142) rfl ((if0 _ _).trans (teq hA.1).2) ?_
      refine XS.iload X24.here hx rfl (hb hby at_145) rfl ?_
      refine st25 _ ?_
      show Steps p.tables e below (T25.setTop (mkF m 150 #[.val (.int p0_0), .val (.int p0_1), .val (.int p0_2), .val (.int p0_3), .val (.int zqA), .val (.int zqB), .val (.int zqC), .val (.int zqM), .val (.ref ra), .val (.ref rb), .val (.int (own_fails zqC)), .unset] [(.int (own_fails zqB))])) _
      refine XS.ifNo X25.here hx rfl (hb hby at_150) rfl ((if0 _ _).trans (teq hA.2).2) ?_
      refine XS.iload X25.here hx rfl (hb hby at_153) rfl ?_
      refine XS.ifNo X25.here hx rfl (hb hby at_155) rfl ((if0 _ _).trans (feq hc120_2).1) ?_
      refine XS.iload X25.here hx rfl (hb hby at_158) rfl ?_
      refine XS.ifYes X25.here hx rfl (pc0 := 160) (pc' := 167) rfl (hb hby at_160) rfl ((if0 _ _).trans (teq hB).1) (by decide) (by decide) ?_
      refine XS.iconst X25.here hx rfl (hb hby at_167) ?_
      refine XS.istore X25.here hx rfl (hb hby at_168) rfl (l' := #[.val (.int p0_0), .val (.int p0_1), .val (.int p0_2), .val (.int p0_3), .val (.int zqA), .val (.int zqB), .val (.int zqC), .val (.int zqM), .val (.ref ra), .val (.ref rb), .val (.int (own_fails zqC)), .val (.int (0 : Int32))]) rfl ?_
      refine XS.aload X25.here hx rfl (hb hby at_170) rfl rfl ?_
      refine st26.trans ?_
      refine XS.iload X26.here hx rfl (hb hby at_175) rfl ?_
      refine XS.icmpNo X26.here hx rfl (hb hby at_177) rfl (teq (by decide : (0 : Int32) = (0 : Int32))).2 ?_
      refine XS.aload X26.here hx rfl (hb hby at_180) rfl rfl ?_
      refine st27.trans ?_
      refine XS.iload X27.here hx rfl (hb hby at_185) rfl ?_
      show Steps p.tables e below (T27.setTop (mkF m 187 #[.val (.int p0_0), .val (.int p0_1), .val (.int p0_2), .val (.int p0_3), .val (.int zqA), .val (.int zqB), .val (.int zqC), .val (.int zqM), .val (.ref ra), .val (.ref rb), .val (.int (own_fails zqC)), .val (.int (0 : Int32))] [(.int (own_fails zqC)), (.int (0 : Int32))])) _
      refine XS.icmpNo X27.here hx rfl (hb hby at_187) rfl (teq hB.symm).2 ?_
      refine XS.iconst X27.here hx rfl (hb hby at_190) ?_
      refine XS.goto X27.here hx rfl (pc0 := 191) (pc' := 195) rfl (hb hby at_191) (by decide) (by decide) ?_
      exact k
    obtain ⟨fs, hr, hrun, hended, hE1, hE2, hE3, hE4⟩ := X27.leaveW hS (by rw [eh27]; exact hk) (v := some (.int (1 : Int32))) (fun h => by rw [hret] at h; cases h)
    have hCE := hCR.trans (CHv.at X27 hZ hEL hCR.1)
    refine ⟨_, _, k28 _ ?_, hrun, hended, _, _, rfl, ?_, (by show CHr Z consts_1 s.vm s.heap T27.vm T27.heap; rw [hh, eh27]; exact hCE), ⟨_, rfl⟩, hE2, hE3, hE4.mono (by decide) (by decide)⟩
    · exact retN X27 hx (t := .boolean) hret (by simp) (hb hby at_195) hr
    · skip
      exact ⟨rfl, N27⟩
set_option maxRecDepth 65536 in
set_option maxHeartbeats 40000000 in
theorem sgD01 {p : Program} {l : Launch} {e : Env} {s : State} {m : MethodId} {args : Array Value} {below : List Frame} {meth : Method} {c : Code} {s₁ : State} {locs : List Loc} {vm0 : Vm} {k0 : Nat} {hs0 : Heap} {Z : State} {a0 : Array Value} (hw : ∀ d ∈ tables_1, d.before a0 Z = true) (hEL : EW Z a0 consts_1) (wS : ∀ a ∈ Bundle.stringAtoms, a.before a0 Z = true) (p0_0 : Int32) (p0_1 : Int32) (p0_2 : Int32) (p0_3 : Int32) (zqA : Int32) (zqB : Int32) (zqC : Int32) (zqM : Int32) (ra : Addr) (la : Addr) (da : Int32) (na : Int32) (ma : Int32) (rb : Addr) (lb : Addr) (db : Int32) (nb : Int32) (mb : Int32) (eb : Addr) (kb : ClassId) (bx0 : Addr) (u_DEFAULTCAPACITY_EMPTY_ELEMENTDATA : Addr) (cl_u_DEFAULTCAPACITY_EMPTY_ELEMENTDATA : Cell) (u_DELETED : Addr) (u__SwitchMap_com_example_batchrake_batchrake_Outcome : Addr) (cl_u__SwitchMap_com_example_batchrake_batchrake_Outcome : Cell) (u_CONFLICT : Addr) (u_BAD_REQUEST : Addr) (u_STORE_ERROR : Addr) (u_NOT_FOUND : Addr) (cs : Int32) (mr : Addr) (h0 : Heap) (n0 : Nat) (Z0 : n0 ≤ h0.size) (B0 : own_base Z n0 h0 u_DEFAULTCAPACITY_EMPTY_ELEMENTDATA cl_u_DEFAULTCAPACITY_EMPTY_ELEMENTDATA u_DELETED u__SwitchMap_com_example_batchrake_batchrake_Outcome cl_u__SwitchMap_com_example_batchrake_batchrake_Outcome u_CONFLICT u_BAD_REQUEST u_STORE_ERROR u_NOT_FOUND cs) (AEr : Exa Z h0 ra "com/example/batchrake/batchrake/DeleteReport") (AFf : Fld Z h0 ra "com/example/batchrake/batchrake/DeleteReport" "failures" "Ljava/util/List;" (.ref la)) (AFd : Fld Z h0 ra "com/example/batchrake/batchrake/DeleteReport" "deleted" "I" (.int da)) (AFn : Fld Z h0 ra "com/example/batchrake/batchrake/DeleteReport" "notFound" "I" (.int na)) (AEl : Exa Z h0 la "java/util/ArrayList") (AFm : Fld Z h0 la "java/util/AbstractList" "modCount" "I" (.int ma)) (AFz : Fld Z h0 la "java/util/ArrayList" "size" "I" (.int (0 : Int32))) (AFe : Fld Z h0 la "java/util/ArrayList" "elementData" "[Ljava/lang/Object;" (.ref u_DEFAULTCAPACITY_EMPTY_ELEMENTDATA)) (BEr : Exa Z h0 rb "com/example/batchrake/batchrake/DeleteReport") (BFf : Fld Z h0 rb "com/example/batchrake/batchrake/DeleteReport" "failures" "Ljava/util/List;" (.ref lb)) (BFd : Fld Z h0 rb "com/example/batchrake/batchrake/DeleteReport" "deleted" "I" (.int db)) (BFn : Fld Z h0 rb "com/example/batchrake/batchrake/DeleteReport" "notFound" "I" (.int nb)) (BEl : Exa Z h0 lb "java/util/ArrayList") (BFm : Fld Z h0 lb "java/util/AbstractList" "modCount" "I" (.int mb)) (BFz : Fld Z h0 lb "java/util/ArrayList" "size" "I" (.int (1 : Int32))) (BFe : Fld Z h0 lb "java/util/ArrayList" "elementData" "[Ljava/lang/Object;" (.ref eb)) (BVe : Arv Z h0 eb kb (.object "java/lang/Object") (10 : Int32) [(.ref bx0), .null, .null, .null, .null, .null, .null, .null, .null, .null] .null) (BEd : Exa Z h0 eb "[Ljava/lang/Object;") (BEbx0 : Exa Z h0 bx0 "com/example/batchrake/batchrake/DeleteReport$Failure") (hcs : ¬ (cs = (0 : Int32))) (hmir : Mir Z "[Ljava/lang/Object;" mr) (ne_ra_la : ra ≠ la) (ne_ra_rb : ra ≠ rb) (ne_ra_lb : ra ≠ lb) (ne_ra_eb : ra ≠ eb) (ne_la_rb : la ≠ rb) (ne_la_lb : la ≠ lb) (ne_la_eb : la ≠ eb) (ne_rb_lb : rb ≠ lb) (ne_rb_eb : rb ≠ eb) (ne_lb_eb : lb ≠ eb) (hovB : Ovr Z kb "java/lang/Object") (hA : own_fails zqA = (0 : Int32) ∧ own_fails zqB = (0 : Int32)) (hB : ¬ (own_fails zqC = (0 : Int32))) (g_ra : n0 ≤ ra) (g_la : n0 ≤ la) (g_rb : n0 ≤ rb) (g_lb : n0 ≤ lb) (g_eb : n0 ≤ eb)
    (X0 : Stand p l e room_1 (s.setVm vm0) m args below meth c s₁ locs 34 800) (hx : p.tables.exec = Jvm.exec) (hZ : Z.Warmed39 (s.setVm vm0).vm) (hby : c.code = code) (hml : c.maxLocals = 12) (hown : (s.setVm vm0).vm.findClass "com/example/batchrake/batchrake/DeleteReportHasFailuresPinLaw" = some m.cls) (hret : meth.sig.returnType = some .boolean) (hlk : meth.locks = false) (e0 : s₁.heap = h0) (N0 : Fr n0 locs) (hh : s.heap = hs0) (hS : s.Since vm0 k0) (hk : k0 ≤ h0.size) (hCR : CHr Z consts_1 s.vm hs0 vm0 h0) :
    ∃ t o, Steps p.tables e below (s₁.setTop (mkF m 118 #[.val (.int p0_0), .val (.int p0_1), .val (.int p0_2), .val (.int p0_3), .val (.int zqA), .val (.int zqB), .val (.int zqC), .val (.int zqM), .val (.ref ra), .val (.ref rb), .unset, .unset] [])) t ∧ t.status = .running ∧ Ended t below o ∧ ∃ v L, o = .returned v ∧ (v = some (.int (1 : Int32)) ∧ Fr n0 L) ∧ CHr Z consts_1 s.vm s.heap t.vm t.heap ∧ ReturnedEndW s o t L 48 1216 := by
  have pre0 : ∀ t, Steps p.tables e below (s₁.setTop (mkF m 118 #[.val (.int p0_0), .val (.int p0_1), .val (.int p0_2), .val (.int p0_3), .val (.int zqA), .val (.int zqB), .val (.int zqC), .val (.int zqM), .val (.ref ra), .val (.ref rb), .unset, .unset] [])) t → Steps p.tables e below (s₁.setTop (mkF m 118 #[.val (.int p0_0), .val (.int p0_1), .val (.int p0_2), .val (.int p0_3), .val (.int zqA), .val (.int zqB), .val (.int zqC), .val (.int zqM), .val (.ref ra), .val (.ref rb), .unset, .unset] [])) t := fun t k => k
  have k1 : ∀ t, Steps p.tables e below (s₁.setTop (mkF m 120 #[.val (.int p0_0), .val (.int p0_1), .val (.int p0_2), .val (.int p0_3), .val (.int zqA), .val (.int zqB), .val (.int zqC), .val (.int zqM), .val (.ref ra), .val (.ref rb), .unset, .unset] [(.int zqM)])) t → Steps p.tables e below (s₁.setTop (mkF m 118 #[.val (.int p0_0), .val (.int p0_1), .val (.int p0_2), .val (.int p0_3), .val (.int zqA), .val (.int zqB), .val (.int zqC), .val (.int zqM), .val (.ref ra), .val (.ref rb), .unset, .unset] [])) t := by
    intro t k
    refine pre0 t ?_
    refine XS.iload X0.here hx rfl (hb hby at_118) rfl ?_
    exact k
  by_cases hc120_2 : zqM = (0 : Int32)
  · skip
    obtain ⟨_, _, ⟨T3, L3, k3, n3⟩, -, X3, ⟨Lc3, hQ3, l3, y3, z3⟩, st3⟩ := Jvm.LawKit.callS X0 hx (y := (⟨"com/example/batchrake/batchrake/DeleteReportHasFailuresPinLaw", "fails", "(I)Z"⟩ : MethodName)) hown (mvT hZ (wd hw 196 rfl)) (mvT hZ (wd hw 197 rfl)) (mvT hZ (wd hw 53 rfl)) (mvT hZ (wd hw 198 rfl)) (by decide) (backOf (W := 0) (rm13 l Z a0 hw [] zqC h0 n0 Z0 ) hZ (wd hw 198 rfl) (wd hw 53 rfl) (by decide) (by decide)) (g := (mkF m 132 #[.val (.int p0_0), .val (.int p0_1), .val (.int p0_2), .val (.int p0_3), .val (.int zqA), .val (.int zqB), .val (.int zqC), .val (.int zqM), .val (.ref ra), .val (.ref rb), .unset, .unset] [(.int zqC)])) rfl (by rw [hml]; rfl) (argsL := [(.int zqC)]) (rest := []) (lenOf pd_17 rfl) rfl (by show 2 * 0 + _ ≤ _; exact Nat.le_of_eq rfl) (hb hby at_132) (fun _ _ => ⟨rfl, e0, (by decide : 34 + 0 ≤ _), (by decide : 800 + 0 ≤ _)⟩)
    dsimp only [Pt.U, Pt.locs, Pt.cells, Pt.slots] at X3 l3 y3 z3 st3 hQ3
    rw [l3, y3, z3] at X3
    obtain ⟨rfl, N3q, eh3⟩ := hQ3
    have N3 := Fr.app N0 N3q
    obtain ⟨_, _, ⟨T4, L4, k4, n4⟩, -, X4, ⟨Lc4, hQ4, l4, y4, z4⟩, st4⟩ := Jvm.LawKit.callS X3 hx (y := (⟨"com/example/batchrake/batchrake/DeleteReportHasFailuresPinLaw", "fails", "(I)Z"⟩ : MethodName)) hown (mvT hZ (wd hw 196 rfl)) (mvT hZ (wd hw 197 rfl)) (mvT hZ (wd hw 53 rfl)) (mvT hZ (wd hw 198 rfl)) (by decide) (backOf (W := 0) (rm13 l Z a0 hw [] zqA h0 n0 Z0 ) hZ (wd hw 198 rfl) (wd hw 53 rfl) (by decide) (by decide)) (g := (mkF m 139 #[.val (.int p0_0), .val (.int p0_1), .val (.int p0_2), .val (.int p0_3), .val (.int zqA), .val (.int zqB), .val (.int zqC), .val (.int zqM), .val (.ref ra), .val (.ref rb), .val (.int (own_fails zqC)), .unset] [(.int zqA)])) rfl (by rw [hml]; rfl) (argsL := [(.int zqA)]) (rest := []) (lenOf pd_17 rfl) rfl (by show 2 * 0 + _ ≤ _; exact Nat.le_of_eq rfl) (hb hby at_139) (fun _ _ => ⟨rfl, eh3, (by decide : 34 + 0 ≤ _), (by decide : 800 + 0 ≤ _)⟩)
    dsimp only [Pt.U, Pt.locs, Pt.cells, Pt.slots] at X4 l4 y4 z4 st4 hQ4
    rw [l4, y4, z4] at X4
    obtain ⟨rfl, N4q, eh4⟩ := hQ4
    have N4 := Fr.app N3 N4q
    obtain ⟨_, _, ⟨T5, L5, k5, n5⟩, -, X5, ⟨Lc5, hQ5, l5, y5, z5⟩, st5⟩ := Jvm.LawKit.callS X4 hx (y := (⟨"com/example/batchrake/batchrake/DeleteReportHasFailuresPinLaw", "fails", "(I)Z"⟩ : MethodName)) hown (mvT hZ (wd hw 196 rfl)) (mvT hZ (wd hw 197 rfl)) (mvT hZ (wd hw 53 rfl)) (mvT hZ (wd hw 198 rfl)) (by decide) (backOf (W := 0) (rm13 l Z a0 hw [] zqB h0 n0 Z0 ) hZ (wd hw 198 rfl) (wd hw 53 rfl) (by decide) (by decide)) (g := (mkF m 147 #[.val (.int p0_0), .val (.int p0_1), .val (.int p0_2), .val (.int p0_3), .val (.int zqA), .val (.int zqB), .val (.int zqC), .val (.int zqM), .val (.ref ra), .val (.ref rb), .val (.int (own_fails zqC)), .unset] [(.int zqB)])) rfl (by rw [hml]; rfl) (argsL := [(.int zqB)]) (rest := []) (lenOf pd_17 rfl) rfl (by show 2 * 0 + _ ≤ _; exact Nat.le_of_eq rfl) (hb hby at_147) (fun _ _ => ⟨rfl, eh4, (by decide : 34 + 0 ≤ _), (by decide : 800 + 0 ≤ _)⟩)
    dsimp only [Pt.U, Pt.locs, Pt.cells, Pt.slots] at X5 l5 y5 z5 st5 hQ5
    rw [l5, y5, z5] at X5
    obtain ⟨rfl, N5q, eh5⟩ := hQ5
    have N5 := Fr.app N4 N5q
    obtain ⟨cq6, kq6, q6a, q6b, q6c⟩ := isOf hZ eh5 AEr
    obtain ⟨_, _, ⟨T6, L6, k6, n6⟩, -, X6, ⟨Lc6, hQ6, l6, y6, z6⟩, st6⟩ := X5.virtualBack hx (y := (⟨"com/example/batchrake/batchrake/DeleteReport", "hasFailures", "()Z"⟩ : MethodName)) (z := (⟨"com/example/batchrake/batchrake/DeleteReport", "hasFailures", "()Z"⟩ : MethodName)) hown (mvT hZ (wd hw 199 rfl)) (mvT hZ (wd hw 200 rfl)) (notFace_of_selects (args := #[]) (mvT hZ (wd hw 202 rfl))) (mvT hZ (wd hw 202 rfl)) (mvT hZ (wd hw 201 rfl)) (by decide) (backOf (W := 0) (rm43 l Z a0 hw [] ra la h0 n0 Z0 AFf AEl AFz) hZ (wd hw 203 rfl) (wd hw 3 rfl) (by decide) (by decide)) q6a q6c (g := (mkF m 172 #[.val (.int p0_0), .val (.int p0_1), .val (.int p0_2), .val (.int p0_3), .val (.int zqA), .val (.int zqB), .val (.int zqC), .val (.int zqM), .val (.ref ra), .val (.ref rb), .val (.int (own_fails zqC)), .val (.int (0 : Int32))] [(.ref ra)])) rfl (by rw [hml]; rfl) (Steps.refl _) (argsL := []) (rest := []) (lenOf pd_16 rfl) rfl (by show 2 * 0 + _ ≤ _; exact Nat.le_of_eq rfl) (hb hby at_172) (fun _ _ => ⟨rfl, eh5, (by decide : 34 + 0 ≤ _), (by decide : 800 + 0 ≤ _)⟩)
    dsimp only [Pt.U, Pt.locs, Pt.cells, Pt.slots] at X6 l6 y6 z6 st6 hQ6
    rw [l6, y6, z6] at X6
    obtain ⟨rfl, N6q, eh6⟩ := hQ6
    have N6 := Fr.app N5 N6q
    obtain ⟨cq7, kq7, q7a, q7b, q7c⟩ := isOf hZ eh6 BEr
    obtain ⟨_, _, ⟨T7, L7, k7, n7⟩, -, X7, ⟨Lc7, hQ7, l7, y7, z7⟩, st7⟩ := X6.virtualBack hx (y := (⟨"com/example/batchrake/batchrake/DeleteReport", "hasFailures", "()Z"⟩ : MethodName)) (z := (⟨"com/example/batchrake/batchrake/DeleteReport", "hasFailures", "()Z"⟩ : MethodName)) hown (mvT hZ (wd hw 199 rfl)) (mvT hZ (wd hw 200 rfl)) (notFace_of_selects (args := #[]) (mvT hZ (wd hw 202 rfl))) (mvT hZ (wd hw 202 rfl)) (mvT hZ (wd hw 201 rfl)) (by decide) (backOf (W := 0) (rm45 l Z a0 hw [] rb lb (1 : Int32) h0 n0 Z0 BFf BEl BFz (by decide : ¬ ((1 : Int32) = (0 : Int32)))) hZ (wd hw 203 rfl) (wd hw 3 rfl) (by decide) (by decide)) q7a q7c (g := (mkF m 182 #[.val (.int p0_0), .val (.int p0_1), .val (.int p0_2), .val (.int p0_3), .val (.int zqA), .val (.int zqB), .val (.int zqC), .val (.int zqM), .val (.ref ra), .val (.ref rb), .val (.int (own_fails zqC)), .val (.int (0 : Int32))] [(.ref rb)])) rfl (by rw [hml]; rfl) (Steps.refl _) (argsL := []) (rest := []) (lenOf pd_16 rfl) rfl (by show 2 * 0 + _ ≤ _; exact Nat.le_of_eq rfl) (hb hby at_182) (fun _ _ => ⟨rfl, eh6, (by decide : 34 + 0 ≤ _), (by decide : 800 + 0 ≤ _)⟩)
    dsimp only [Pt.U, Pt.locs, Pt.cells, Pt.slots] at X7 l7 y7 z7 st7 hQ7
    rw [l7, y7, z7] at X7
    obtain ⟨rfl, N7q, eh7⟩ := hQ7
    have N7 := Fr.app N6 N7q
    have k8 : ∀ t, Steps p.tables e below (T7.setTop (mkF m 195 #[.val (.int p0_0), .val (.int p0_1), .val (.int p0_2), .val (.int p0_3), .val (.int zqA), .val (.int zqB), .val (.int zqC), .val (.int zqM), .val (.ref ra), .val (.ref rb), .val (.int (own_fails zqC)), .val (.int (0 : Int32))] [(.int (1 : Int32))])) t → Steps p.tables e below (s₁.setTop (mkF m 118 #[.val (.int p0_0), .val (.int p0_1), .val (.int p0_2), .val (.int p0_3), .val (.int zqA), .val (.int zqB), .val (.int zqC), .val (.int zqM), .val (.ref ra), .val (.ref rb), .unset, .unset] [])) t := by
      intro t k
      refine k1 t ?_
      refine XS.ifYes X0.here hx rfl (pc0 := 120) (pc' := 130) rfl (hb hby at_120) rfl ((if0 _ _).trans (teq hc120_2).1) (by decide) (by decide) ?_
      refine XS.iload X0.here hx rfl (hb hby at_130) rfl ?_
      refine st3 _ ?_
      refine XS.istore X3.here hx rfl (hb hby at_135) rfl (l' := #[.val (.int p0_0), .val (.int p0_1), .val (.int p0_2), .val (.int p0_3), .val (.int zqA), .val (.int zqB), .val (.int zqC), .val (.int zqM), .val (.ref ra), .val (.ref rb), .val (.int (own_fails zqC)), .unset]) rfl ?_
      refine XS.iload X3.here hx rfl (hb hby at_137) rfl ?_
      refine st4 _ ?_
      refine XS.ifNo X4.here hx rfl (hb hby at_142) rfl ((if0 _ _).trans (teq hA.1).2) ?_
      refine XS.iload X4.here hx rfl (hb hby at_145) rfl ?_
      refine st5 _ ?_
      refine XS.ifNo X5.here hx rfl (hb hby at_150) rfl ((if0 _ _).trans (teq hA.2).2) ?_
      refine XS.iload X5.here hx rfl (hb hby at_153) rfl ?_
      refine XS.ifYes X5.here hx rfl (pc0 := 155) (pc' := 167) rfl (hb hby at_155) rfl ((if0 _ _).trans (teq hc120_2).1) (by decide) (by decide) ?_
      show Steps p.tables e below (T5.setTop (mkF m 167 #[.val (.int p0_0), .val (.int p0_1), .val (.int p0_2), .val (.int p0_3), .val (.int zqA), .val (.int zqB), .val (.int zqC), .val (.int zqM), .val (.ref ra), .val (.ref rb), .val (.int (own_fails zqC)), .unset] [])) _
      refine XS.iconst X5.here hx rfl (hb hby at_167) ?_
      refine XS.istore X5.here hx rfl (hb hby at_168) rfl (l' := #[.val (.int p0_0), .val (.int p0_1), .val (.int p0_2), .val (.int p0_3), .val (.int zqA), .val (.int zqB), .val (.int zqC), .val (.int zqM), .val (.ref ra), .val (.ref rb), .val (.int (own_fails zqC)), .val (.int (0 : Int32))]) rfl ?_
      refine XS.aload X5.here hx rfl (hb hby at_170) rfl rfl ?_
      refine st6.trans ?_
      refine XS.iload X6.here hx rfl (hb hby at_175) rfl ?_
      refine XS.icmpNo X6.here hx rfl (hb hby at_177) rfl (teq (by decide : (0 : Int32) = (0 : Int32))).2 ?_
      refine XS.aload X6.here hx rfl (hb hby at_180) rfl rfl ?_
      refine st7.trans ?_
      refine XS.iload X7.here hx rfl (hb hby at_185) rfl ?_
      refine XS.icmpNo X7.here hx rfl (hb hby at_187) rfl (teq (own_f1 _ hB)).2 ?_
      refine XS.iconst X7.here hx rfl (hb hby at_190) ?_
      refine XS.goto X7.here hx rfl (pc0 := 191) (pc' := 195) rfl (hb hby at_191) (by decide) (by decide) ?_
      exact k
    obtain ⟨fs, hr, hrun, hended, hE1, hE2, hE3, hE4⟩ := X7.leaveW hS (by rw [eh7]; exact hk) (v := some (.int (1 : Int32))) (fun h => by rw [hret] at h; cases h)
    have hCE := hCR.trans (CHv.at X7 hZ hEL hCR.1)
    refine ⟨_, _, k8 _ ?_, hrun, hended, _, _, rfl, ?_, (by show CHr Z consts_1 s.vm s.heap T7.vm T7.heap; rw [hh, eh7]; exact hCE), ⟨_, rfl⟩, hE2, hE3, hE4.mono (by decide) (by decide)⟩
    · exact retN X7 hx (t := .boolean) hret (by simp) (hb hby at_195) hr
    · skip
      exact ⟨rfl, N7⟩
  · skip
    obtain ⟨cq9, kq9, q9a, q9b, q9c⟩ := isOf hZ e0 AEr
    obtain ⟨_, _, ⟨T9, L9, k9, n9⟩, -, X9, ⟨Lc9, hQ9, l9, y9, z9⟩, st9⟩ := X0.virtualBack hx (y := (⟨"com/example/batchrake/batchrake/DeleteReport", "add", "(Lcom/example/batchrake/batchrake/DeleteReport;)V"⟩ : MethodName)) (z := (⟨"com/example/batchrake/batchrake/DeleteReport", "add", "(Lcom/example/batchrake/batchrake/DeleteReport;)V"⟩ : MethodName)) hown (mvT hZ (wd hw 149 rfl)) (mvT hZ (wd hw 150 rfl)) (notFace_of_selects (args := #[]) (mvT hZ (wd hw 152 rfl))) (mvT hZ (wd hw 152 rfl)) (mvT hZ (wd hw 151 rfl)) (by decide) (backOf (W := 0) (rm34 l Z a0 hw [] ra rb la da na ma lb db nb mb eb kb bx0 u_DEFAULTCAPACITY_EMPTY_ELEMENTDATA cl_u_DEFAULTCAPACITY_EMPTY_ELEMENTDATA mr h0 n0 Z0 (own_b0 B0) (own_b18 B0) (own_b1 B0) AEr AFf AFd AFn AEl AFm AFz AFe BEr BFf BFd BFn BEl BFm BFz BFe BVe BEd BEbx0 hmir (Nat.ne_of_lt (Nat.lt_of_lt_of_le (own_b21 B0) g_la)) (Ne.symm ne_ra_la) (Ne.symm ne_ra_rb) (Ne.symm ne_ra_lb) (Ne.symm ne_ra_eb) (Nat.ne_of_lt (Nat.lt_of_lt_of_le (own_b21 B0) g_ra)) g_ra g_la) hZ (wd hw 153 rfl) (wd hw 3 rfl) (by decide) (by decide)) q9a q9c (g := (mkF m 127 #[.val (.int p0_0), .val (.int p0_1), .val (.int p0_2), .val (.int p0_3), .val (.int zqA), .val (.int zqB), .val (.int zqC), .val (.int zqM), .val (.ref ra), .val (.ref rb), .unset, .unset] [(.ref rb), (.ref ra)])) rfl (by rw [hml]; rfl) (Steps.refl _) (argsL := [(.ref rb)]) (rest := []) (lenOf pd_18 rfl) rfl (by show 2 * 0 + _ ≤ _; exact Nat.le_of_eq rfl) (hb hby at_127) (fun _ _ => ⟨rfl, e0, (by decide : 34 + 2 ≤ _), (by decide : 800 + 11 ≤ _)⟩)
    dsimp only [Pt.U, Pt.locs, Pt.cells, Pt.slots] at X9 l9 y9 z9 st9 hQ9
    rw [l9, y9, z9] at X9
    obtain ⟨rfl, N9q, Kc9, G9_0, G9_1, G9_2, G9_3⟩ := hQ9
    have Zs9 : n0 ≤ T9.heap.size := Nat.le_trans Z0 Kc9.1
    have hCR := hCR.trans (CHr.keep Kc9 (sfS own_safe0 (sfS own_safe0 sf0)) hCR.1)
    have hk := Nat.le_trans hk Kc9.1
    have F10 := own_bkeep B0 Kc9 (allS g_ra (allS g_la all0)) (allS (own_nsE AEr) (allS (own_nsE AEl) all0))
    have F15 := BEr.keep Kc9
    have F16 := BFf.keep Kc9 (ninS (Ne.symm ne_ra_rb) (ninS (Ne.symm ne_la_rb) nin0))
    have F17 := BFd.keep Kc9 (ninS (Ne.symm ne_ra_rb) (ninS (Ne.symm ne_la_rb) nin0))
    have F18 := BFn.keep Kc9 (ninS (Ne.symm ne_ra_rb) (ninS (Ne.symm ne_la_rb) nin0))
    have F19 := BEl.keep Kc9
    have F20 := BFm.keep Kc9 (ninS (Ne.symm ne_ra_lb) (ninS (Ne.symm ne_la_lb) nin0))
    have F21 := BFz.keep Kc9 (ninS (Ne.symm ne_ra_lb) (ninS (Ne.symm ne_la_lb) nin0))
    have F22 := BFe.keep Kc9 (ninS (Ne.symm ne_ra_lb) (ninS (Ne.symm ne_la_lb) nin0))
    have F23 := BVe.keep Kc9 (ninS (Ne.symm ne_ra_eb) (ninS (Ne.symm ne_la_eb) nin0))
    have F24 := BEd.keep Kc9
    have F25 := BEbx0.keep Kc9
    have N9 := Fr.app N0 N9q
    obtain ⟨_, _, ⟨T26, L26, k26, n26⟩, -, X26, ⟨Lc26, hQ26, l26, y26, z26⟩, st26⟩ := Jvm.LawKit.callS X9 hx (y := (⟨"com/example/batchrake/batchrake/DeleteReportHasFailuresPinLaw", "fails", "(I)Z"⟩ : MethodName)) hown (mvT hZ (wd hw 196 rfl)) (mvT hZ (wd hw 197 rfl)) (mvT hZ (wd hw 53 rfl)) (mvT hZ (wd hw 198 rfl)) (by decide) (backOf (W := 0) (rm13 l Z a0 hw [] zqC T9.heap n0 Zs9 ) hZ (wd hw 198 rfl) (wd hw 53 rfl) (by decide) (by decide)) (g := (mkF m 132 #[.val (.int p0_0), .val (.int p0_1), .val (.int p0_2), .val (.int p0_3), .val (.int zqA), .val (.int zqB), .val (.int zqC), .val (.int zqM), .val (.ref ra), .val (.ref rb), .unset, .unset] [(.int zqC)])) rfl (by rw [hml]; rfl) (argsL := [(.int zqC)]) (rest := []) (lenOf pd_17 rfl) rfl (by show 2 * 0 + _ ≤ _; exact Nat.le_of_eq rfl) (hb hby at_132) (fun _ _ => ⟨rfl, rfl, (by decide : 36 + 0 ≤ _), (by decide : 811 + 0 ≤ _)⟩)
    dsimp only [Pt.U, Pt.locs, Pt.cells, Pt.slots] at X26 l26 y26 z26 st26 hQ26
    rw [l26, y26, z26] at X26
    obtain ⟨rfl, N26q, eh26⟩ := hQ26
    have N26 := Fr.app N9 N26q
    obtain ⟨_, _, ⟨T27, L27, k27, n27⟩, -, X27, ⟨Lc27, hQ27, l27, y27, z27⟩, st27⟩ := Jvm.LawKit.callS X26 hx (y := (⟨"com/example/batchrake/batchrake/DeleteReportHasFailuresPinLaw", "fails", "(I)Z"⟩ : MethodName)) hown (mvT hZ (wd hw 196 rfl)) (mvT hZ (wd hw 197 rfl)) (mvT hZ (wd hw 53 rfl)) (mvT hZ (wd hw 198 rfl)) (by decide) (backOf (W := 0) (rm13 l Z a0 hw [] zqA T9.heap n0 Zs9 ) hZ (wd hw 198 rfl) (wd hw 53 rfl) (by decide) (by decide)) (g := (mkF m 139 #[.val (.int p0_0), .val (.int p0_1), .val (.int p0_2), .val (.int p0_3), .val (.int zqA), .val (.int zqB), .val (.int zqC), .val (.int zqM), .val (.ref ra), .val (.ref rb), .val (.int (own_fails zqC)), .unset] [(.int zqA)])) rfl (by rw [hml]; rfl) (argsL := [(.int zqA)]) (rest := []) (lenOf pd_17 rfl) rfl (by show 2 * 0 + _ ≤ _; exact Nat.le_of_eq rfl) (hb hby at_139) (fun _ _ => ⟨rfl, eh26, (by decide : 36 + 0 ≤ _), (by decide : 811 + 0 ≤ _)⟩)
    dsimp only [Pt.U, Pt.locs, Pt.cells, Pt.slots] at X27 l27 y27 z27 st27 hQ27
    rw [l27, y27, z27] at X27
    obtain ⟨rfl, N27q, eh27⟩ := hQ27
    have N27 := Fr.app N26 N27q
    obtain ⟨_, _, ⟨T28, L28, k28, n28⟩, -, X28, ⟨Lc28, hQ28, l28, y28, z28⟩, st28⟩ := Jvm.LawKit.callS X27 hx (y := (⟨"com/example/batchrake/batchrake/DeleteReportHasFailuresPinLaw", "fails", "(I)Z"⟩ : MethodName)) hown (mvT hZ (wd hw 196 rfl)) (mvT hZ (wd hw 197 rfl)) (mvT hZ (wd hw 53 rfl)) (mvT hZ (wd hw 198 rfl)) (by decide) (backOf (W := 0) (rm13 l Z a0 hw [] zqB T9.heap n0 Zs9 ) hZ (wd hw 198 rfl) (wd hw 53 rfl) (by decide) (by decide)) (g := (mkF m 147 #[.val (.int p0_0), .val (.int p0_1), .val (.int p0_2), .val (.int p0_3), .val (.int zqA), .val (.int zqB), .val (.int zqC), .val (.int zqM), .val (.ref ra), .val (.ref rb), .val (.int (own_fails zqC)), .unset] [(.int zqB)])) rfl (by rw [hml]; rfl) (argsL := [(.int zqB)]) (rest := []) (lenOf pd_17 rfl) rfl (by show 2 * 0 + _ ≤ _; exact Nat.le_of_eq rfl) (hb hby at_147) (fun _ _ => ⟨rfl, eh27, (by decide : 36 + 0 ≤ _), (by decide : 811 + 0 ≤ _)⟩)
    dsimp only [Pt.U, Pt.locs, Pt.cells, Pt.slots] at X28 l28 y28 z28 st28 hQ28
    rw [l28, y28, z28] at X28
    obtain ⟨rfl, N28q, eh28⟩ := hQ28
    have N28 := Fr.app N27 N28q
    obtain ⟨cq29, kq29, q29a, q29b, q29c⟩ := isOf hZ eh28 G9_0
    obtain ⟨_, _, ⟨T29, L29, k29, n29⟩, -, X29, ⟨Lc29, hQ29, l29, y29, z29⟩, st29⟩ := X28.virtualBack hx (y := (⟨"com/example/batchrake/batchrake/DeleteReport", "hasFailures", "()Z"⟩ : MethodName)) (z := (⟨"com/example/batchrake/batchrake/DeleteReport", "hasFailures", "()Z"⟩ : MethodName)) hown (mvT hZ (wd hw 199 rfl)) (mvT hZ (wd hw 200 rfl)) (notFace_of_selects (args := #[]) (mvT hZ (wd hw 202 rfl))) (mvT hZ (wd hw 202 rfl)) (mvT hZ (wd hw 201 rfl)) (by decide) (backOf (W := 0) (rm45 l Z a0 hw [] ra la (1 : Int32) T9.heap n0 Zs9 G9_1 G9_2 G9_3 (by decide : ¬ ((1 : Int32) = (0 : Int32)))) hZ (wd hw 203 rfl) (wd hw 3 rfl) (by decide) (by decide)) q29a q29c (g := (mkF m 172 #[.val (.int p0_0), .val (.int p0_1), .val (.int p0_2), .val (.int p0_3), .val (.int zqA), .val (.int zqB), .val (.int zqC), .val (.int zqM), .val (.ref ra), .val (.ref rb), .val (.int (own_fails zqC)), .val (.int (1 : Int32))] [(.ref ra)])) rfl (by rw [hml]; rfl) (Steps.refl _) (argsL := []) (rest := []) (lenOf pd_16 rfl) rfl (by show 2 * 0 + _ ≤ _; exact Nat.le_of_eq rfl) (hb hby at_172) (fun _ _ => ⟨rfl, eh28, (by decide : 36 + 0 ≤ _), (by decide : 811 + 0 ≤ _)⟩)
    dsimp only [Pt.U, Pt.locs, Pt.cells, Pt.slots] at X29 l29 y29 z29 st29 hQ29
    rw [l29, y29, z29] at X29
    obtain ⟨rfl, N29q, eh29⟩ := hQ29
    have N29 := Fr.app N28 N29q
    obtain ⟨cq30, kq30, q30a, q30b, q30c⟩ := isOf hZ eh29 F15
    obtain ⟨_, _, ⟨T30, L30, k30, n30⟩, -, X30, ⟨Lc30, hQ30, l30, y30, z30⟩, st30⟩ := X29.virtualBack hx (y := (⟨"com/example/batchrake/batchrake/DeleteReport", "hasFailures", "()Z"⟩ : MethodName)) (z := (⟨"com/example/batchrake/batchrake/DeleteReport", "hasFailures", "()Z"⟩ : MethodName)) hown (mvT hZ (wd hw 199 rfl)) (mvT hZ (wd hw 200 rfl)) (notFace_of_selects (args := #[]) (mvT hZ (wd hw 202 rfl))) (mvT hZ (wd hw 202 rfl)) (mvT hZ (wd hw 201 rfl)) (by decide) (backOf (W := 0) (rm45 l Z a0 hw [] rb lb (1 : Int32) T9.heap n0 Zs9 F16 F19 F21 (by decide : ¬ ((1 : Int32) = (0 : Int32)))) hZ (wd hw 203 rfl) (wd hw 3 rfl) (by decide) (by decide)) q30a q30c (g := (mkF m 182 #[.val (.int p0_0), .val (.int p0_1), .val (.int p0_2), .val (.int p0_3), .val (.int zqA), .val (.int zqB), .val (.int zqC), .val (.int zqM), .val (.ref ra), .val (.ref rb), .val (.int (own_fails zqC)), .val (.int (1 : Int32))] [(.ref rb)])) rfl (by rw [hml]; rfl) (Steps.refl _) (argsL := []) (rest := []) (lenOf pd_16 rfl) rfl (by show 2 * 0 + _ ≤ _; exact Nat.le_of_eq rfl) (hb hby at_182) (fun _ _ => ⟨rfl, eh29, (by decide : 36 + 0 ≤ _), (by decide : 811 + 0 ≤ _)⟩)
    dsimp only [Pt.U, Pt.locs, Pt.cells, Pt.slots] at X30 l30 y30 z30 st30 hQ30
    rw [l30, y30, z30] at X30
    obtain ⟨rfl, N30q, eh30⟩ := hQ30
    have N30 := Fr.app N29 N30q
    have k31 : ∀ t, Steps p.tables e below (T30.setTop (mkF m 195 #[.val (.int p0_0), .val (.int p0_1), .val (.int p0_2), .val (.int p0_3), .val (.int zqA), .val (.int zqB), .val (.int zqC), .val (.int zqM), .val (.ref ra), .val (.ref rb), .val (.int (own_fails zqC)), .val (.int (1 : Int32))] [(.int (1 : Int32))])) t → Steps p.tables e below (s₁.setTop (mkF m 118 #[.val (.int p0_0), .val (.int p0_1), .val (.int p0_2), .val (.int p0_3), .val (.int zqA), .val (.int zqB), .val (.int zqC), .val (.int zqM), .val (.ref ra), .val (.ref rb), .unset, .unset] [])) t := by
      intro t k
      refine k1 t ?_
      refine XS.ifNo X0.here hx rfl (hb hby at_120) rfl ((if0 _ _).trans (feq hc120_2).1) ?_
      refine XS.aload X0.here hx rfl (hb hby at_123) rfl rfl ?_
      refine XS.aload X0.here hx rfl (hb hby at_125) rfl rfl ?_
      refine st9.trans ?_
      refine XS.iload X9.here hx rfl (hb hby at_130) rfl ?_
      refine st26 _ ?_
      refine XS.istore X26.here hx rfl (hb hby at_135) rfl (l' := #[.val (.int p0_0), .val (.int p0_1), .val (.int p0_2), .val (.int p0_3), .val (.int zqA), .val (.int zqB), .val (.int zqC), .val (.int zqM), .val (.ref ra), .val (.ref rb), .val (.int (own_fails zqC)), .unset]) rfl ?_
      refine XS.iload X26.here hx rfl (hb hby at_137) rfl ?_
      refine st27 _ ?_
      refine XS.ifNo X27.here hx rfl (hb hby at_142) rfl ((if0 _ _).trans (teq hA.1).2) ?_
      refine XS.iload X27.here hx rfl (hb hby at_145) rfl ?_
      refine st28 _ ?_
      show Steps p.tables e below (T28.setTop (mkF m 150 #[.val (.int p0_0), .val (.int p0_1), .val (.int p0_2), .val (.int p0_3), .val (.int zqA), .val (.int zqB), .val (.int zqC), .val (.int zqM), .val (.ref ra), .val (.ref rb), .val (.int (own_fails zqC)), .unset] [(.int (own_fails zqB))])) _
      refine XS.ifNo X28.here hx rfl (hb hby at_150) rfl ((if0 _ _).trans (teq hA.2).2) ?_
      refine XS.iload X28.here hx rfl (hb hby at_153) rfl ?_
      refine XS.ifNo X28.here hx rfl (hb hby at_155) rfl ((if0 _ _).trans (feq hc120_2).1) ?_
      refine XS.iload X28.here hx rfl (hb hby at_158) rfl ?_
      refine XS.ifNo X28.here hx rfl (hb hby at_160) rfl ((if0 _ _).trans (feq hB).1) ?_
      refine XS.iconst X28.here hx rfl (hb hby at_163) ?_
      refine XS.goto X28.here hx rfl (pc0 := 164) (pc' := 168) rfl (hb hby at_164) (by decide) (by decide) ?_
      refine XS.istore X28.here hx rfl (hb hby at_168) rfl (l' := #[.val (.int p0_0), .val (.int p0_1), .val (.int p0_2), .val (.int p0_3), .val (.int zqA), .val (.int zqB), .val (.int zqC), .val (.int zqM), .val (.ref ra), .val (.ref rb), .val (.int (own_fails zqC)), .val (.int (1 : Int32))]) rfl ?_
      refine XS.aload X28.here hx rfl (hb hby at_170) rfl rfl ?_
      refine st29.trans ?_
      refine XS.iload X29.here hx rfl (hb hby at_175) rfl ?_
      refine XS.icmpNo X29.here hx rfl (hb hby at_177) rfl (teq (by decide : (1 : Int32) = (1 : Int32))).2 ?_
      refine XS.aload X29.here hx rfl (hb hby at_180) rfl rfl ?_
      refine st30.trans ?_
      show Steps p.tables e below (T30.setTop (mkF m 185 #[.val (.int p0_0), .val (.int p0_1), .val (.int p0_2), .val (.int p0_3), .val (.int zqA), .val (.int zqB), .val (.int zqC), .val (.int zqM), .val (.ref ra), .val (.ref rb), .val (.int (own_fails zqC)), .val (.int (1 : Int32))] [(.int (1 : Int32))])) _
      refine XS.iload X30.here hx rfl (hb hby at_185) rfl ?_
      refine XS.icmpNo X30.here hx rfl (hb hby at_187) rfl (teq (own_f1 _ hB)).2 ?_
      refine XS.iconst X30.here hx rfl (hb hby at_190) ?_
      refine XS.goto X30.here hx rfl (pc0 := 191) (pc' := 195) rfl (hb hby at_191) (by decide) (by decide) ?_
      exact k
    obtain ⟨fs, hr, hrun, hended, hE1, hE2, hE3, hE4⟩ := X30.leaveW hS (by rw [eh30]; exact hk) (v := some (.int (1 : Int32))) (fun h => by rw [hret] at h; cases h)
    have hCE := hCR.trans (CHv.at X30 hZ hEL hCR.1)
    refine ⟨_, _, k31 _ ?_, hrun, hended, _, _, rfl, ?_, (by show CHr Z consts_1 s.vm s.heap T30.vm T30.heap; rw [hh, eh30]; exact hCE), ⟨_, rfl⟩, hE2, hE3, hE4.mono (by decide) (by decide)⟩
    · exact retN X30 hx (t := .boolean) hret (by simp) (hb hby at_195) hr
    · skip
      exact ⟨rfl, N30⟩
set_option maxRecDepth 65536 in
set_option maxHeartbeats 40000000 in
theorem sgDP0 {p : Program} {l : Launch} {e : Env} {s : State} {m : MethodId} {args : Array Value} {below : List Frame} {meth : Method} {c : Code} {s₁ : State} {locs : List Loc} {vm0 : Vm} {k0 : Nat} {hs0 : Heap} {Z : State} {a0 : Array Value} (hw : ∀ d ∈ tables_1, d.before a0 Z = true) (hEL : EW Z a0 consts_1) (wS : ∀ a ∈ Bundle.stringAtoms, a.before a0 Z = true) (p0_0 : Int32) (p0_1 : Int32) (p0_2 : Int32) (p0_3 : Int32) (zqA : Int32) (zqB : Int32) (zqC : Int32) (zqM : Int32) (ra : Addr) (la : Addr) (da : Int32) (na : Int32) (ma : Int32) (ea : Addr) (ka : ClassId) (ks : Int32) (va : List Value) (rb : Addr) (lb : Addr) (db : Int32) (nb : Int32) (mb : Int32) (u_DEFAULTCAPACITY_EMPTY_ELEMENTDATA : Addr) (cl_u_DEFAULTCAPACITY_EMPTY_ELEMENTDATA : Cell) (u_DELETED : Addr) (u__SwitchMap_com_example_batchrake_batchrake_Outcome : Addr) (cl_u__SwitchMap_com_example_batchrake_batchrake_Outcome : Cell) (u_CONFLICT : Addr) (u_BAD_REQUEST : Addr) (u_STORE_ERROR : Addr) (u_NOT_FOUND : Addr) (cs : Int32) (mr : Addr) (h0 : Heap) (n0 : Nat) (Z0 : n0 ≤ h0.size) (B0 : own_base Z n0 h0 u_DEFAULTCAPACITY_EMPTY_ELEMENTDATA cl_u_DEFAULTCAPACITY_EMPTY_ELEMENTDATA u_DELETED u__SwitchMap_com_example_batchrake_batchrake_Outcome cl_u__SwitchMap_com_example_batchrake_batchrake_Outcome u_CONFLICT u_BAD_REQUEST u_STORE_ERROR u_NOT_FOUND cs) (AEr : Exa Z h0 ra "com/example/batchrake/batchrake/DeleteReport") (AFf : Fld Z h0 ra "com/example/batchrake/batchrake/DeleteReport" "failures" "Ljava/util/List;" (.ref la)) (AFd : Fld Z h0 ra "com/example/batchrake/batchrake/DeleteReport" "deleted" "I" (.int da)) (AFn : Fld Z h0 ra "com/example/batchrake/batchrake/DeleteReport" "notFound" "I" (.int na)) (AEl : Exa Z h0 la "java/util/ArrayList") (AFm : Fld Z h0 la "java/util/AbstractList" "modCount" "I" (.int ma)) (AFz : Fld Z h0 la "java/util/ArrayList" "size" "I" (.int ks)) (AFe : Fld Z h0 la "java/util/ArrayList" "elementData" "[Ljava/lang/Object;" (.ref ea)) (AVe : Arv Z h0 ea ka (.object "java/lang/Object") (10 : Int32) va .null) (AEd : Exa Z h0 ea "[Ljava/lang/Object;") (BEr : Exa Z h0 rb "com/example/batchrake/batchrake/DeleteReport") (BFf : Fld Z h0 rb "com/example/batchrake/batchrake/DeleteReport" "failures" "Ljava/util/List;" (.ref lb)) (BFd : Fld Z h0 rb "com/example/batchrake/batchrake/DeleteReport" "deleted" "I" (.int db)) (BFn : Fld Z h0 rb "com/example/batchrake/batchrake/DeleteReport" "notFound" "I" (.int nb)) (BEl : Exa Z h0 lb "java/util/ArrayList") (BFm : Fld Z h0 lb "java/util/AbstractList" "modCount" "I" (.int mb)) (BFz : Fld Z h0 lb "java/util/ArrayList" "size" "I" (.int (0 : Int32))) (BFe : Fld Z h0 lb "java/util/ArrayList" "elementData" "[Ljava/lang/Object;" (.ref u_DEFAULTCAPACITY_EMPTY_ELEMENTDATA)) (hcs : ¬ (cs = (0 : Int32))) (hmir : Mir Z "[Ljava/lang/Object;" mr) (ne_ra_la : ra ≠ la) (ne_ra_ea : ra ≠ ea) (ne_ra_rb : ra ≠ rb) (ne_ra_lb : ra ≠ lb) (ne_la_ea : la ≠ ea) (ne_la_rb : la ≠ rb) (ne_la_lb : la ≠ lb) (ne_ea_rb : ea ≠ rb) (ne_ea_lb : ea ≠ lb) (ne_rb_lb : rb ≠ lb) (hovA : Ovr Z ka "java/lang/Object") (hks : ks = (1 : Int32) ∨ ks = (2 : Int32)) (hva : va.length = 10) (hA : ¬ (own_fails zqA = (0 : Int32) ∧ own_fails zqB = (0 : Int32))) (hB : own_fails zqC = (0 : Int32)) (g_ra : n0 ≤ ra) (g_la : n0 ≤ la) (g_ea : n0 ≤ ea) (g_rb : n0 ≤ rb) (g_lb : n0 ≤ lb)
    (X0 : Stand p l e room_1 (s.setVm vm0) m args below meth c s₁ locs 34 800) (hx : p.tables.exec = Jvm.exec) (hZ : Z.Warmed39 (s.setVm vm0).vm) (hby : c.code = code) (hml : c.maxLocals = 12) (hown : (s.setVm vm0).vm.findClass "com/example/batchrake/batchrake/DeleteReportHasFailuresPinLaw" = some m.cls) (hret : meth.sig.returnType = some .boolean) (hlk : meth.locks = false) (e0 : s₁.heap = h0) (N0 : Fr n0 locs) (hh : s.heap = hs0) (hS : s.Since vm0 k0) (hk : k0 ≤ h0.size) (hCR : CHr Z consts_1 s.vm hs0 vm0 h0) :
    ∃ t o, Steps p.tables e below (s₁.setTop (mkF m 118 #[.val (.int p0_0), .val (.int p0_1), .val (.int p0_2), .val (.int p0_3), .val (.int zqA), .val (.int zqB), .val (.int zqC), .val (.int zqM), .val (.ref ra), .val (.ref rb), .unset, .unset] [])) t ∧ t.status = .running ∧ Ended t below o ∧ ∃ v L, o = .returned v ∧ (v = some (.int (1 : Int32)) ∧ Fr n0 L) ∧ CHr Z consts_1 s.vm s.heap t.vm t.heap ∧ ReturnedEndW s o t L 48 1216 := by
  have pre0 : ∀ t, Steps p.tables e below (s₁.setTop (mkF m 118 #[.val (.int p0_0), .val (.int p0_1), .val (.int p0_2), .val (.int p0_3), .val (.int zqA), .val (.int zqB), .val (.int zqC), .val (.int zqM), .val (.ref ra), .val (.ref rb), .unset, .unset] [])) t → Steps p.tables e below (s₁.setTop (mkF m 118 #[.val (.int p0_0), .val (.int p0_1), .val (.int p0_2), .val (.int p0_3), .val (.int zqA), .val (.int zqB), .val (.int zqC), .val (.int zqM), .val (.ref ra), .val (.ref rb), .unset, .unset] [])) t := fun t k => k
  have k1 : ∀ t, Steps p.tables e below (s₁.setTop (mkF m 120 #[.val (.int p0_0), .val (.int p0_1), .val (.int p0_2), .val (.int p0_3), .val (.int zqA), .val (.int zqB), .val (.int zqC), .val (.int zqM), .val (.ref ra), .val (.ref rb), .unset, .unset] [(.int zqM)])) t → Steps p.tables e below (s₁.setTop (mkF m 118 #[.val (.int p0_0), .val (.int p0_1), .val (.int p0_2), .val (.int p0_3), .val (.int zqA), .val (.int zqB), .val (.int zqC), .val (.int zqM), .val (.ref ra), .val (.ref rb), .unset, .unset] [])) t := by
    intro t k
    refine pre0 t ?_
    refine XS.iload X0.here hx rfl (hb hby at_118) rfl ?_
    exact k
  by_cases hc120_2 : zqM = (0 : Int32)
  · skip
    obtain ⟨_, _, ⟨T3, L3, k3, n3⟩, -, X3, ⟨Lc3, hQ3, l3, y3, z3⟩, st3⟩ := Jvm.LawKit.callS X0 hx (y := (⟨"com/example/batchrake/batchrake/DeleteReportHasFailuresPinLaw", "fails", "(I)Z"⟩ : MethodName)) hown (mvT hZ (wd hw 196 rfl)) (mvT hZ (wd hw 197 rfl)) (mvT hZ (wd hw 53 rfl)) (mvT hZ (wd hw 198 rfl)) (by decide) (backOf (W := 0) (rm13 l Z a0 hw [] zqC h0 n0 Z0 ) hZ (wd hw 198 rfl) (wd hw 53 rfl) (by decide) (by decide)) (g := (mkF m 132 #[.val (.int p0_0), .val (.int p0_1), .val (.int p0_2), .val (.int p0_3), .val (.int zqA), .val (.int zqB), .val (.int zqC), .val (.int zqM), .val (.ref ra), .val (.ref rb), .unset, .unset] [(.int zqC)])) rfl (by rw [hml]; rfl) (argsL := [(.int zqC)]) (rest := []) (lenOf pd_17 rfl) rfl (by show 2 * 0 + _ ≤ _; exact Nat.le_of_eq rfl) (hb hby at_132) (fun _ _ => ⟨rfl, e0, (by decide : 34 + 0 ≤ _), (by decide : 800 + 0 ≤ _)⟩)
    dsimp only [Pt.U, Pt.locs, Pt.cells, Pt.slots] at X3 l3 y3 z3 st3 hQ3
    rw [l3, y3, z3] at X3
    obtain ⟨rfl, N3q, eh3⟩ := hQ3
    have N3 := Fr.app N0 N3q
    obtain ⟨_, _, ⟨T4, L4, k4, n4⟩, -, X4, ⟨Lc4, hQ4, l4, y4, z4⟩, st4⟩ := Jvm.LawKit.callS X3 hx (y := (⟨"com/example/batchrake/batchrake/DeleteReportHasFailuresPinLaw", "fails", "(I)Z"⟩ : MethodName)) hown (mvT hZ (wd hw 196 rfl)) (mvT hZ (wd hw 197 rfl)) (mvT hZ (wd hw 53 rfl)) (mvT hZ (wd hw 198 rfl)) (by decide) (backOf (W := 0) (rm13 l Z a0 hw [] zqA h0 n0 Z0 ) hZ (wd hw 198 rfl) (wd hw 53 rfl) (by decide) (by decide)) (g := (mkF m 139 #[.val (.int p0_0), .val (.int p0_1), .val (.int p0_2), .val (.int p0_3), .val (.int zqA), .val (.int zqB), .val (.int zqC), .val (.int zqM), .val (.ref ra), .val (.ref rb), .val (.int (own_fails zqC)), .unset] [(.int zqA)])) rfl (by rw [hml]; rfl) (argsL := [(.int zqA)]) (rest := []) (lenOf pd_17 rfl) rfl (by show 2 * 0 + _ ≤ _; exact Nat.le_of_eq rfl) (hb hby at_139) (fun _ _ => ⟨rfl, eh3, (by decide : 34 + 0 ≤ _), (by decide : 800 + 0 ≤ _)⟩)
    dsimp only [Pt.U, Pt.locs, Pt.cells, Pt.slots] at X4 l4 y4 z4 st4 hQ4
    rw [l4, y4, z4] at X4
    obtain ⟨rfl, N4q, eh4⟩ := hQ4
    have N4 := Fr.app N3 N4q
    have k5 : ∀ t, Steps p.tables e below (T4.setTop (mkF m 142 #[.val (.int p0_0), .val (.int p0_1), .val (.int p0_2), .val (.int p0_3), .val (.int zqA), .val (.int zqB), .val (.int zqC), .val (.int zqM), .val (.ref ra), .val (.ref rb), .val (.int (own_fails zqC)), .unset] [(.int (own_fails zqA))])) t → Steps p.tables e below (s₁.setTop (mkF m 118 #[.val (.int p0_0), .val (.int p0_1), .val (.int p0_2), .val (.int p0_3), .val (.int zqA), .val (.int zqB), .val (.int zqC), .val (.int zqM), .val (.ref ra), .val (.ref rb), .unset, .unset] [])) t := by
      intro t k
      refine k1 t ?_
      refine XS.ifYes X0.here hx rfl (pc0 := 120) (pc' := 130) rfl (hb hby at_120) rfl ((if0 _ _).trans (teq hc120_2).1) (by decide) (by decide) ?_
      refine XS.iload X0.here hx rfl (hb hby at_130) rfl ?_
      refine st3 _ ?_
      refine XS.istore X3.here hx rfl (hb hby at_135) rfl (l' := #[.val (.int p0_0), .val (.int p0_1), .val (.int p0_2), .val (.int p0_3), .val (.int zqA), .val (.int zqB), .val (.int zqC), .val (.int zqM), .val (.ref ra), .val (.ref rb), .val (.int (own_fails zqC)), .unset]) rfl ?_
      refine XS.iload X3.here hx rfl (hb hby at_137) rfl ?_
      refine st4 _ ?_
      exact k
    by_cases hc142_6 : (own_fails zqA) = (0 : Int32)
    · skip
      obtain ⟨_, _, ⟨T7, L7, k7, n7⟩, -, X7, ⟨Lc7, hQ7, l7, y7, z7⟩, st7⟩ := Jvm.LawKit.callS X4 hx (y := (⟨"com/example/batchrake/batchrake/DeleteReportHasFailuresPinLaw", "fails", "(I)Z"⟩ : MethodName)) hown (mvT hZ (wd hw 196 rfl)) (mvT hZ (wd hw 197 rfl)) (mvT hZ (wd hw 53 rfl)) (mvT hZ (wd hw 198 rfl)) (by decide) (backOf (W := 0) (rm13 l Z a0 hw [] zqB h0 n0 Z0 ) hZ (wd hw 198 rfl) (wd hw 53 rfl) (by decide) (by decide)) (g := (mkF m 147 #[.val (.int p0_0), .val (.int p0_1), .val (.int p0_2), .val (.int p0_3), .val (.int zqA), .val (.int zqB), .val (.int zqC), .val (.int zqM), .val (.ref ra), .val (.ref rb), .val (.int (own_fails zqC)), .unset] [(.int zqB)])) rfl (by rw [hml]; rfl) (argsL := [(.int zqB)]) (rest := []) (lenOf pd_17 rfl) rfl (by show 2 * 0 + _ ≤ _; exact Nat.le_of_eq rfl) (hb hby at_147) (fun _ _ => ⟨rfl, eh4, (by decide : 34 + 0 ≤ _), (by decide : 800 + 0 ≤ _)⟩)
      dsimp only [Pt.U, Pt.locs, Pt.cells, Pt.slots] at X7 l7 y7 z7 st7 hQ7
      rw [l7, y7, z7] at X7
      obtain ⟨rfl, N7q, eh7⟩ := hQ7
      have N7 := Fr.app N4 N7q
      obtain ⟨cq8, kq8, q8a, q8b, q8c⟩ := isOf hZ eh7 AEr
      obtain ⟨_, _, ⟨T8, L8, k8, n8⟩, -, X8, ⟨Lc8, hQ8, l8, y8, z8⟩, st8⟩ := X7.virtualBack hx (y := (⟨"com/example/batchrake/batchrake/DeleteReport", "hasFailures", "()Z"⟩ : MethodName)) (z := (⟨"com/example/batchrake/batchrake/DeleteReport", "hasFailures", "()Z"⟩ : MethodName)) hown (mvT hZ (wd hw 199 rfl)) (mvT hZ (wd hw 200 rfl)) (notFace_of_selects (args := #[]) (mvT hZ (wd hw 202 rfl))) (mvT hZ (wd hw 202 rfl)) (mvT hZ (wd hw 201 rfl)) (by decide) (backOf (W := 0) (rm45 l Z a0 hw [] ra la ks h0 n0 Z0 AFf AEl AFz (own_ks _ hks).1) hZ (wd hw 203 rfl) (wd hw 3 rfl) (by decide) (by decide)) q8a q8c (g := (mkF m 172 #[.val (.int p0_0), .val (.int p0_1), .val (.int p0_2), .val (.int p0_3), .val (.int zqA), .val (.int zqB), .val (.int zqC), .val (.int zqM), .val (.ref ra), .val (.ref rb), .val (.int (own_fails zqC)), .val (.int (1 : Int32))] [(.ref ra)])) rfl (by rw [hml]; rfl) (Steps.refl _) (argsL := []) (rest := []) (lenOf pd_16 rfl) rfl (by show 2 * 0 + _ ≤ _; exact Nat.le_of_eq rfl) (hb hby at_172) (fun _ _ => ⟨rfl, eh7, (by decide : 34 + 0 ≤ _), (by decide : 800 + 0 ≤ _)⟩)
      dsimp only [Pt.U, Pt.locs, Pt.cells, Pt.slots] at X8 l8 y8 z8 st8 hQ8
      rw [l8, y8, z8] at X8
      obtain ⟨rfl, N8q, eh8⟩ := hQ8
      have N8 := Fr.app N7 N8q
      obtain ⟨cq9, kq9, q9a, q9b, q9c⟩ := isOf hZ eh8 BEr
      obtain ⟨_, _, ⟨T9, L9, k9, n9⟩, -, X9, ⟨Lc9, hQ9, l9, y9, z9⟩, st9⟩ := X8.virtualBack hx (y := (⟨"com/example/batchrake/batchrake/DeleteReport", "hasFailures", "()Z"⟩ : MethodName)) (z := (⟨"com/example/batchrake/batchrake/DeleteReport", "hasFailures", "()Z"⟩ : MethodName)) hown (mvT hZ (wd hw 199 rfl)) (mvT hZ (wd hw 200 rfl)) (notFace_of_selects (args := #[]) (mvT hZ (wd hw 202 rfl))) (mvT hZ (wd hw 202 rfl)) (mvT hZ (wd hw 201 rfl)) (by decide) (backOf (W := 0) (rm43 l Z a0 hw [] rb lb h0 n0 Z0 BFf BEl BFz) hZ (wd hw 203 rfl) (wd hw 3 rfl) (by decide) (by decide)) q9a q9c (g := (mkF m 182 #[.val (.int p0_0), .val (.int p0_1), .val (.int p0_2), .val (.int p0_3), .val (.int zqA), .val (.int zqB), .val (.int zqC), .val (.int zqM), .val (.ref ra), .val (.ref rb), .val (.int (own_fails zqC)), .val (.int (1 : Int32))] [(.ref rb)])) rfl (by rw [hml]; rfl) (Steps.refl _) (argsL := []) (rest := []) (lenOf pd_16 rfl) rfl (by show 2 * 0 + _ ≤ _; exact Nat.le_of_eq rfl) (hb hby at_182) (fun _ _ => ⟨rfl, eh8, (by decide : 34 + 0 ≤ _), (by decide : 800 + 0 ≤ _)⟩)
      dsimp only [Pt.U, Pt.locs, Pt.cells, Pt.slots] at X9 l9 y9 z9 st9 hQ9
      rw [l9, y9, z9] at X9
      obtain ⟨rfl, N9q, eh9⟩ := hQ9
      have N9 := Fr.app N8 N9q
      have k10 : ∀ t, Steps p.tables e below (T9.setTop (mkF m 195 #[.val (.int p0_0), .val (.int p0_1), .val (.int p0_2), .val (.int p0_3), .val (.int zqA), .val (.int zqB), .val (.int zqC), .val (.int zqM), .val (.ref ra), .val (.ref rb), .val (.int (own_fails zqC)), .val (.int (1 : Int32))] [(.int (1 : Int32))])) t → Steps p.tables e below (s₁.setTop (mkF m 118 #[.val (.int p0_0), .val (.int p0_1), .val (.int p0_2), .val (.int p0_3), .val (.int zqA), .val (.int zqB), .val (.int zqC), .val (.int zqM), .val (.ref ra), .val (.ref rb), .unset, .unset] [])) t := by
        intro t k
        refine k5 t ?_
        refine XS.ifNo X4.here hx rfl (hb hby at_142) rfl ((if0 _ _).trans (teq hc142_6).2) ?_
        refine XS.iload X4.here hx rfl (hb hby at_145) rfl ?_
        refine st7 _ ?_
        refine XS.ifYes X7.here hx rfl (pc0 := 150) (pc' := 163) rfl (hb hby at_150) rfl ((if0 _ _).trans (feq (fun q => hA ⟨hc142_6, q⟩)).2) (by decide) (by decide) ?_
        refine XS.iconst X7.here hx rfl (hb hby at_163) ?_
        refine XS.goto X7.here hx rfl (pc0 := 164) (pc' := 168) rfl (hb hby at_164) (by decide) (by decide) ?_
        show Steps p.tables e below (T7.setTop (mkF m 168 #[.val (.int p0_0), .val (.int p0_1), .val (.int p0_2), .val (.int p0_3), .val (.int zqA), .val (.int zqB), .val (.int zqC), .val (.int zqM), .val (.ref ra), .val (.ref rb), .val (.int (own_fails zqC)), .unset] [(.int (1 : Int32))])) _
        refine XS.istore X7.here hx rfl (hb hby at_168) rfl (l' := #[.val (.int p0_0), .val (.int p0_1), .val (.int p0_2), .val (.int p0_3), .val (.int zqA), .val (.int zqB), .val (.int zqC), .val (.int zqM), .val (.ref ra), .val (.ref rb), .val (.int (own_fails zqC)), .val (.int (1 : Int32))]) rfl ?_
        refine XS.aload X7.here hx rfl (hb hby at_170) rfl rfl ?_
        refine st8.trans ?_
        refine XS.iload X8.here hx rfl (hb hby at_175) rfl ?_
        refine XS.icmpNo X8.here hx rfl (hb hby at_177) rfl (teq (by decide : (1 : Int32) = (1 : Int32))).2 ?_
        refine XS.aload X8.here hx rfl (hb hby at_180) rfl rfl ?_
        refine st9.trans ?_
        refine XS.iload X9.here hx rfl (hb hby at_185) rfl ?_
        refine XS.icmpNo X9.here hx rfl (hb hby at_187) rfl (teq hB.symm).2 ?_
        refine XS.iconst X9.here hx rfl (hb hby at_190) ?_
        refine XS.goto X9.here hx rfl (pc0 := 191) (pc' := 195) rfl (hb hby at_191) (by decide) (by decide) ?_
        exact k
      obtain ⟨fs, hr, hrun, hended, hE1, hE2, hE3, hE4⟩ := X9.leaveW hS (by rw [eh9]; exact hk) (v := some (.int (1 : Int32))) (fun h => by rw [hret] at h; cases h)
      have hCE := hCR.trans (CHv.at X9 hZ hEL hCR.1)
      refine ⟨_, _, k10 _ ?_, hrun, hended, _, _, rfl, ?_, (by show CHr Z consts_1 s.vm s.heap T9.vm T9.heap; rw [hh, eh9]; exact hCE), ⟨_, rfl⟩, hE2, hE3, hE4.mono (by decide) (by decide)⟩
      · exact retN X9 hx (t := .boolean) hret (by simp) (hb hby at_195) hr
      · skip
        exact ⟨rfl, N9⟩
    · skip
      obtain ⟨cq11, kq11, q11a, q11b, q11c⟩ := isOf hZ eh4 AEr
      obtain ⟨_, _, ⟨T11, L11, k11, n11⟩, -, X11, ⟨Lc11, hQ11, l11, y11, z11⟩, st11⟩ := X4.virtualBack hx (y := (⟨"com/example/batchrake/batchrake/DeleteReport", "hasFailures", "()Z"⟩ : MethodName)) (z := (⟨"com/example/batchrake/batchrake/DeleteReport", "hasFailures", "()Z"⟩ : MethodName)) hown (mvT hZ (wd hw 199 rfl)) (mvT hZ (wd hw 200 rfl)) (notFace_of_selects (args := #[]) (mvT hZ (wd hw 202 rfl))) (mvT hZ (wd hw 202 rfl)) (mvT hZ (wd hw 201 rfl)) (by decide) (backOf (W := 0) (rm45 l Z a0 hw [] ra la ks h0 n0 Z0 AFf AEl AFz (own_ks _ hks).1) hZ (wd hw 203 rfl) (wd hw 3 rfl) (by decide) (by decide)) q11a q11c (g := (mkF m 172 #[.val (.int p0_0), .val (.int p0_1), .val (.int p0_2), .val (.int p0_3), .val (.int zqA), .val (.int zqB), .val (.int zqC), .val (.int zqM), .val (.ref ra), .val (.ref rb), .val (.int (own_fails zqC)), .val (.int (1 : Int32))] [(.ref ra)])) rfl (by rw [hml]; rfl) (Steps.refl _) (argsL := []) (rest := []) (lenOf pd_16 rfl) rfl (by show 2 * 0 + _ ≤ _; exact Nat.le_of_eq rfl) (hb hby at_172) (fun _ _ => ⟨rfl, eh4, (by decide : 34 + 0 ≤ _), (by decide : 800 + 0 ≤ _)⟩)
      dsimp only [Pt.U, Pt.locs, Pt.cells, Pt.slots] at X11 l11 y11 z11 st11 hQ11
      rw [l11, y11, z11] at X11
      obtain ⟨rfl, N11q, eh11⟩ := hQ11
      have N11 := Fr.app N4 N11q
      obtain ⟨cq12, kq12, q12a, q12b, q12c⟩ := isOf hZ eh11 BEr
      obtain ⟨_, _, ⟨T12, L12, k12, n12⟩, -, X12, ⟨Lc12, hQ12, l12, y12, z12⟩, st12⟩ := X11.virtualBack hx (y := (⟨"com/example/batchrake/batchrake/DeleteReport", "hasFailures", "()Z"⟩ : MethodName)) (z := (⟨"com/example/batchrake/batchrake/DeleteReport", "hasFailures", "()Z"⟩ : MethodName)) hown (mvT hZ (wd hw 199 rfl)) (mvT hZ (wd hw 200 rfl)) (notFace_of_selects (args := #[]) (mvT hZ (wd hw 202 rfl))) (mvT hZ (wd hw 202 rfl)) (mvT hZ (wd hw 201 rfl)) (by decide) (backOf (W := 0) (rm43 l Z a0 hw [] rb lb h0 n0 Z0 BFf BEl BFz) hZ (wd hw 203 rfl) (wd hw 3 rfl) (by decide) (by decide)) q12a q12c (g := (mkF m 182 #[.val (.int p0_0), .val (.int p0_1), .val (.int p0_2), .val (.int p0_3), .val (.int zqA), .val (.int zqB), .val (.int zqC), .val (.int zqM), .val (.ref ra), .val (.ref rb), .val (.int (own_fails zqC)), .val (.int (1 : Int32))] [(.ref rb)])) rfl (by rw [hml]; rfl) (Steps.refl _) (argsL := []) (rest := []) (lenOf pd_16 rfl) rfl (by show 2 * 0 + _ ≤ _; exact Nat.le_of_eq rfl) (hb hby at_182) (fun _ _ => ⟨rfl, eh11, (by decide : 34 + 0 ≤ _), (by decide : 800 + 0 ≤ _)⟩)
      dsimp only [Pt.U, Pt.locs, Pt.cells, Pt.slots] at X12 l12 y12 z12 st12 hQ12
      rw [l12, y12, z12] at X12
      obtain ⟨rfl, N12q, eh12⟩ := hQ12
      have N12 := Fr.app N11 N12q
      have k13 : ∀ t, Steps p.tables e below (T12.setTop (mkF m 195 #[.val (.int p0_0), .val (.int p0_1), .val (.int p0_2), .val (.int p0_3), .val (.int zqA), .val (.int zqB), .val (.int zqC), .val (.int zqM), .val (.ref ra), .val (.ref rb), .val (.int (own_fails zqC)), .val (.int (1 : Int32))] [(.int (1 : Int32))])) t → Steps p.tables e below (s₁.setTop (mkF m 118 #[.val (.int p0_0), .val (.int p0_1), .val (.int p0_2), .val (.int p0_3), .val (.int zqA), .val (.int zqB), .val (.int zqC), .val (.int zqM), .val (.ref ra), .val (.ref rb), .unset, .unset] [])) t := by
        intro t k
        refine k5 t ?_
        refine XS.ifYes X4.here hx rfl (pc0 := 142) (pc' := 163) rfl (hb hby at_142) rfl ((if0 _ _).trans (feq hc142_6).2) (by decide) (by decide) ?_
        refine XS.iconst X4.here hx rfl (hb hby at_163) ?_
        refine XS.goto X4.here hx rfl (pc0 := 164) (pc' := 168) rfl (hb hby at_164) (by decide) (by decide) ?_
        refine XS.istore X4.here hx rfl (hb hby at_168) rfl (l' := #[.val (.int p0_0), .val (.int p0_1), .val (.int p0_2), .val (.int p0_3), .val (.int zqA), .val (.int zqB), .val (.int zqC), .val (.int zqM), .val (.ref ra), .val (.ref rb), .val (.int (own_fails zqC)), .val (.int (1 : Int32))]) rfl ?_
        refine XS.aload X4.here hx rfl (hb hby at_170) rfl rfl ?_
        refine st11.trans ?_
        show Steps p.tables e below (T11.setTop (mkF m 175 #[.val (.int p0_0), .val (.int p0_1), .val (.int p0_2), .val (.int p0_3), .val (.int zqA), .val (.int zqB), .val (.int zqC), .val (.int zqM), .val (.ref ra), .val (.ref rb), .val (.int (own_fails zqC)), .val (.int (1 : Int32))] [(.int (1 : Int32))])) _
        refine XS.iload X11.here hx rfl (hb hby at_175) rfl ?_
        refine XS.icmpNo X11.here hx rfl (hb hby at_177) rfl (teq (by decide : (1 : Int32) = (1 : Int32))).2 ?_
        refine XS.aload X11.here hx rfl (hb hby at_180) rfl rfl ?_
        refine st12.trans ?_
        refine XS.iload X12.here hx rfl (hb hby at_185) rfl ?_
        refine XS.icmpNo X12.here hx rfl (hb hby at_187) rfl (teq hB.symm).2 ?_
        refine XS.iconst X12.here hx rfl (hb hby at_190) ?_
        refine XS.goto X12.here hx rfl (pc0 := 191) (pc' := 195) rfl (hb hby at_191) (by decide) (by decide) ?_
        exact k
      obtain ⟨fs, hr, hrun, hended, hE1, hE2, hE3, hE4⟩ := X12.leaveW hS (by rw [eh12]; exact hk) (v := some (.int (1 : Int32))) (fun h => by rw [hret] at h; cases h)
      have hCE := hCR.trans (CHv.at X12 hZ hEL hCR.1)
      refine ⟨_, _, k13 _ ?_, hrun, hended, _, _, rfl, ?_, (by show CHr Z consts_1 s.vm s.heap T12.vm T12.heap; rw [hh, eh12]; exact hCE), ⟨_, rfl⟩, hE2, hE3, hE4.mono (by decide) (by decide)⟩
      · exact retN X12 hx (t := .boolean) hret (by simp) (hb hby at_195) hr
      · skip
        exact ⟨rfl, N12⟩
  · skip
    obtain ⟨cq14, kq14, q14a, q14b, q14c⟩ := isOf hZ e0 AEr
    obtain ⟨_, _, ⟨T14, L14, k14, n14⟩, -, X14, ⟨Lc14, hQ14, l14, y14, z14⟩, st14⟩ := X0.virtualBack hx (y := (⟨"com/example/batchrake/batchrake/DeleteReport", "add", "(Lcom/example/batchrake/batchrake/DeleteReport;)V"⟩ : MethodName)) (z := (⟨"com/example/batchrake/batchrake/DeleteReport", "add", "(Lcom/example/batchrake/batchrake/DeleteReport;)V"⟩ : MethodName)) hown (mvT hZ (wd hw 149 rfl)) (mvT hZ (wd hw 150 rfl)) (notFace_of_selects (args := #[]) (mvT hZ (wd hw 152 rfl))) (mvT hZ (wd hw 152 rfl)) (mvT hZ (wd hw 151 rfl)) (by decide) (backOf (W := 0) (rm36 l Z a0 hw [] ra rb la da na ma ea ka ks va lb db nb mb u_DEFAULTCAPACITY_EMPTY_ELEMENTDATA cl_u_DEFAULTCAPACITY_EMPTY_ELEMENTDATA mr h0 n0 Z0 (own_b0 B0) (own_b18 B0) (own_b1 B0) AEr AFf AFd AFn AEl AFm AFz AFe AVe AEd BEr BFf BFd BFn BEl BFm BFz BFe hmir (Nat.ne_of_lt (Nat.lt_of_lt_of_le (own_b21 B0) g_la)) hovA (Ne.symm ne_la_ea) hks hva (Ne.symm ne_ra_la) (Ne.symm ne_ra_ea) (Ne.symm ne_ra_rb) (Ne.symm ne_ra_lb) (Nat.ne_of_lt (Nat.lt_of_lt_of_le (own_b21 B0) g_ra)) g_ra g_la) hZ (wd hw 153 rfl) (wd hw 3 rfl) (by decide) (by decide)) q14a q14c (g := (mkF m 127 #[.val (.int p0_0), .val (.int p0_1), .val (.int p0_2), .val (.int p0_3), .val (.int zqA), .val (.int zqB), .val (.int zqC), .val (.int zqM), .val (.ref ra), .val (.ref rb), .unset, .unset] [(.ref rb), (.ref ra)])) rfl (by rw [hml]; rfl) (Steps.refl _) (argsL := [(.ref rb)]) (rest := []) (lenOf pd_18 rfl) rfl (by show 2 * 0 + _ ≤ _; exact Nat.le_of_eq rfl) (hb hby at_127) (fun _ _ => ⟨rfl, e0, (by decide : 34 + 1 ≤ _), (by decide : 800 + 0 ≤ _)⟩)
    dsimp only [Pt.U, Pt.locs, Pt.cells, Pt.slots] at X14 l14 y14 z14 st14 hQ14
    rw [l14, y14, z14] at X14
    obtain ⟨rfl, N14q, Kc14, G14_0, G14_1, G14_2, G14_3⟩ := hQ14
    have Zs14 : n0 ≤ T14.heap.size := Nat.le_trans Z0 Kc14.1
    have hCR := hCR.trans (CHr.keep Kc14 (sfS own_safe0 (sfS own_safe0 sf0)) hCR.1)
    have hk := Nat.le_trans hk Kc14.1
    have F15 := own_bkeep B0 Kc14 (allS g_ra (allS g_la all0)) (allS (own_nsE AEr) (allS (own_nsE AEl) all0))
    have F20 := AVe.keep Kc14 (ninS (Ne.symm ne_ra_ea) (ninS (Ne.symm ne_la_ea) nin0))
    have F21 := AEd.keep Kc14
    have F22 := BEr.keep Kc14
    have F23 := BFf.keep Kc14 (ninS (Ne.symm ne_ra_rb) (ninS (Ne.symm ne_la_rb) nin0))
    have F24 := BFd.keep Kc14 (ninS (Ne.symm ne_ra_rb) (ninS (Ne.symm ne_la_rb) nin0))
    have F25 := BFn.keep Kc14 (ninS (Ne.symm ne_ra_rb) (ninS (Ne.symm ne_la_rb) nin0))
    have F26 := BEl.keep Kc14
    have F27 := BFm.keep Kc14 (ninS (Ne.symm ne_ra_lb) (ninS (Ne.symm ne_la_lb) nin0))
    have F28 := BFz.keep Kc14 (ninS (Ne.symm ne_ra_lb) (ninS (Ne.symm ne_la_lb) nin0))
    have F29 := BFe.keep Kc14 (ninS (Ne.symm ne_ra_lb) (ninS (Ne.symm ne_la_lb) nin0))
    have N14 := Fr.app N0 N14q
    obtain ⟨_, _, ⟨T30, L30, k30, n30⟩, -, X30, ⟨Lc30, hQ30, l30, y30, z30⟩, st30⟩ := Jvm.LawKit.callS X14 hx (y := (⟨"com/example/batchrake/batchrake/DeleteReportHasFailuresPinLaw", "fails", "(I)Z"⟩ : MethodName)) hown (mvT hZ (wd hw 196 rfl)) (mvT hZ (wd hw 197 rfl)) (mvT hZ (wd hw 53 rfl)) (mvT hZ (wd hw 198 rfl)) (by decide) (backOf (W := 0) (rm13 l Z a0 hw [] zqC T14.heap n0 Zs14 ) hZ (wd hw 198 rfl) (wd hw 53 rfl) (by decide) (by decide)) (g := (mkF m 132 #[.val (.int p0_0), .val (.int p0_1), .val (.int p0_2), .val (.int p0_3), .val (.int zqA), .val (.int zqB), .val (.int zqC), .val (.int zqM), .val (.ref ra), .val (.ref rb), .unset, .unset] [(.int zqC)])) rfl (by rw [hml]; rfl) (argsL := [(.int zqC)]) (rest := []) (lenOf pd_17 rfl) rfl (by show 2 * 0 + _ ≤ _; exact Nat.le_of_eq rfl) (hb hby at_132) (fun _ _ => ⟨rfl, rfl, (by decide : 35 + 0 ≤ _), (by decide : 800 + 0 ≤ _)⟩)
    dsimp only [Pt.U, Pt.locs, Pt.cells, Pt.slots] at X30 l30 y30 z30 st30 hQ30
    rw [l30, y30, z30] at X30
    obtain ⟨rfl, N30q, eh30⟩ := hQ30
    have N30 := Fr.app N14 N30q
    obtain ⟨_, _, ⟨T31, L31, k31, n31⟩, -, X31, ⟨Lc31, hQ31, l31, y31, z31⟩, st31⟩ := Jvm.LawKit.callS X30 hx (y := (⟨"com/example/batchrake/batchrake/DeleteReportHasFailuresPinLaw", "fails", "(I)Z"⟩ : MethodName)) hown (mvT hZ (wd hw 196 rfl)) (mvT hZ (wd hw 197 rfl)) (mvT hZ (wd hw 53 rfl)) (mvT hZ (wd hw 198 rfl)) (by decide) (backOf (W := 0) (rm13 l Z a0 hw [] zqA T14.heap n0 Zs14 ) hZ (wd hw 198 rfl) (wd hw 53 rfl) (by decide) (by decide)) (g := (mkF m 139 #[.val (.int p0_0), .val (.int p0_1), .val (.int p0_2), .val (.int p0_3), .val (.int zqA), .val (.int zqB), .val (.int zqC), .val (.int zqM), .val (.ref ra), .val (.ref rb), .val (.int (own_fails zqC)), .unset] [(.int zqA)])) rfl (by rw [hml]; rfl) (argsL := [(.int zqA)]) (rest := []) (lenOf pd_17 rfl) rfl (by show 2 * 0 + _ ≤ _; exact Nat.le_of_eq rfl) (hb hby at_139) (fun _ _ => ⟨rfl, eh30, (by decide : 35 + 0 ≤ _), (by decide : 800 + 0 ≤ _)⟩)
    dsimp only [Pt.U, Pt.locs, Pt.cells, Pt.slots] at X31 l31 y31 z31 st31 hQ31
    rw [l31, y31, z31] at X31
    obtain ⟨rfl, N31q, eh31⟩ := hQ31
    have N31 := Fr.app N30 N31q
    have k32 : ∀ t, Steps p.tables e below (T31.setTop (mkF m 142 #[.val (.int p0_0), .val (.int p0_1), .val (.int p0_2), .val (.int p0_3), .val (.int zqA), .val (.int zqB), .val (.int zqC), .val (.int zqM), .val (.ref ra), .val (.ref rb), .val (.int (own_fails zqC)), .unset] [(.int (own_fails zqA))])) t → Steps p.tables e below (s₁.setTop (mkF m 118 #[.val (.int p0_0), .val (.int p0_1), .val (.int p0_2), .val (.int p0_3), .val (.int zqA), .val (.int zqB), .val (.int zqC), .val (.int zqM), .val (.ref ra), .val (.ref rb), .unset, .unset] [])) t := by
      intro t k
      refine k1 t ?_
      refine XS.ifNo X0.here hx rfl (hb hby at_120) rfl ((if0 _ _).trans (feq hc120_2).1) ?_
      refine XS.aload X0.here hx rfl (hb hby at_123) rfl rfl ?_
      refine XS.aload X0.here hx rfl (hb hby at_125) rfl rfl ?_
      refine st14.trans ?_
      refine XS.iload X14.here hx rfl (hb hby at_130) rfl ?_
      refine st30 _ ?_
      refine XS.istore X30.here hx rfl (hb hby at_135) rfl (l' := #[.val (.int p0_0), .val (.int p0_1), .val (.int p0_2), .val (.int p0_3), .val (.int zqA), .val (.int zqB), .val (.int zqC), .val (.int zqM), .val (.ref ra), .val (.ref rb), .val (.int (own_fails zqC)), .unset]) rfl ?_
      refine XS.iload X30.here hx rfl (hb hby at_137) rfl ?_
      refine st31 _ ?_
      exact k
    by_cases hc142_33 : (own_fails zqA) = (0 : Int32)
    · skip
      obtain ⟨_, _, ⟨T34, L34, k34, n34⟩, -, X34, ⟨Lc34, hQ34, l34, y34, z34⟩, st34⟩ := Jvm.LawKit.callS X31 hx (y := (⟨"com/example/batchrake/batchrake/DeleteReportHasFailuresPinLaw", "fails", "(I)Z"⟩ : MethodName)) hown (mvT hZ (wd hw 196 rfl)) (mvT hZ (wd hw 197 rfl)) (mvT hZ (wd hw 53 rfl)) (mvT hZ (wd hw 198 rfl)) (by decide) (backOf (W := 0) (rm13 l Z a0 hw [] zqB T14.heap n0 Zs14 ) hZ (wd hw 198 rfl) (wd hw 53 rfl) (by decide) (by decide)) (g := (mkF m 147 #[.val (.int p0_0), .val (.int p0_1), .val (.int p0_2), .val (.int p0_3), .val (.int zqA), .val (.int zqB), .val (.int zqC), .val (.int zqM), .val (.ref ra), .val (.ref rb), .val (.int (own_fails zqC)), .unset] [(.int zqB)])) rfl (by rw [hml]; rfl) (argsL := [(.int zqB)]) (rest := []) (lenOf pd_17 rfl) rfl (by show 2 * 0 + _ ≤ _; exact Nat.le_of_eq rfl) (hb hby at_147) (fun _ _ => ⟨rfl, eh31, (by decide : 35 + 0 ≤ _), (by decide : 800 + 0 ≤ _)⟩)
      dsimp only [Pt.U, Pt.locs, Pt.cells, Pt.slots] at X34 l34 y34 z34 st34 hQ34
      rw [l34, y34, z34] at X34
      obtain ⟨rfl, N34q, eh34⟩ := hQ34
      have N34 := Fr.app N31 N34q
      obtain ⟨cq35, kq35, q35a, q35b, q35c⟩ := isOf hZ eh34 G14_0
      obtain ⟨_, _, ⟨T35, L35, k35, n35⟩, -, X35, ⟨Lc35, hQ35, l35, y35, z35⟩, st35⟩ := X34.virtualBack hx (y := (⟨"com/example/batchrake/batchrake/DeleteReport", "hasFailures", "()Z"⟩ : MethodName)) (z := (⟨"com/example/batchrake/batchrake/DeleteReport", "hasFailures", "()Z"⟩ : MethodName)) hown (mvT hZ (wd hw 199 rfl)) (mvT hZ (wd hw 200 rfl)) (notFace_of_selects (args := #[]) (mvT hZ (wd hw 202 rfl))) (mvT hZ (wd hw 202 rfl)) (mvT hZ (wd hw 201 rfl)) (by decide) (backOf (W := 0) (rm45 l Z a0 hw [] ra la ks T14.heap n0 Zs14 G14_1 G14_2 G14_3 (own_ks _ hks).1) hZ (wd hw 203 rfl) (wd hw 3 rfl) (by decide) (by decide)) q35a q35c (g := (mkF m 172 #[.val (.int p0_0), .val (.int p0_1), .val (.int p0_2), .val (.int p0_3), .val (.int zqA), .val (.int zqB), .val (.int zqC), .val (.int zqM), .val (.ref ra), .val (.ref rb), .val (.int (own_fails zqC)), .val (.int (1 : Int32))] [(.ref ra)])) rfl (by rw [hml]; rfl) (Steps.refl _) (argsL := []) (rest := []) (lenOf pd_16 rfl) rfl (by show 2 * 0 + _ ≤ _; exact Nat.le_of_eq rfl) (hb hby at_172) (fun _ _ => ⟨rfl, eh34, (by decide : 35 + 0 ≤ _), (by decide : 800 + 0 ≤ _)⟩)
      dsimp only [Pt.U, Pt.locs, Pt.cells, Pt.slots] at X35 l35 y35 z35 st35 hQ35
      rw [l35, y35, z35] at X35
      obtain ⟨rfl, N35q, eh35⟩ := hQ35
      have N35 := Fr.app N34 N35q
      obtain ⟨cq36, kq36, q36a, q36b, q36c⟩ := isOf hZ eh35 F22
      obtain ⟨_, _, ⟨T36, L36, k36, n36⟩, -, X36, ⟨Lc36, hQ36, l36, y36, z36⟩, st36⟩ := X35.virtualBack hx (y := (⟨"com/example/batchrake/batchrake/DeleteReport", "hasFailures", "()Z"⟩ : MethodName)) (z := (⟨"com/example/batchrake/batchrake/DeleteReport", "hasFailures", "()Z"⟩ : MethodName)) hown (mvT hZ (wd hw 199 rfl)) (mvT hZ (wd hw 200 rfl)) (notFace_of_selects (args := #[]) (mvT hZ (wd hw 202 rfl))) (mvT hZ (wd hw 202 rfl)) (mvT hZ (wd hw 201 rfl)) (by decide) (backOf (W := 0) (rm43 l Z a0 hw [] rb lb T14.heap n0 Zs14 F23 F26 F28) hZ (wd hw 203 rfl) (wd hw 3 rfl) (by decide) (by decide)) q36a q36c (g := (mkF m 182 #[.val (.int p0_0), .val (.int p0_1), .val (.int p0_2), .val (.int p0_3), .val (.int zqA), .val (.int zqB), .val (.int zqC), .val (.int zqM), .val (.ref ra), .val (.ref rb), .val (.int (own_fails zqC)), .val (.int (1 : Int32))] [(.ref rb)])) rfl (by rw [hml]; rfl) (Steps.refl _) (argsL := []) (rest := []) (lenOf pd_16 rfl) rfl (by show 2 * 0 + _ ≤ _; exact Nat.le_of_eq rfl) (hb hby at_182) (fun _ _ => ⟨rfl, eh35, (by decide : 35 + 0 ≤ _), (by decide : 800 + 0 ≤ _)⟩)
      dsimp only [Pt.U, Pt.locs, Pt.cells, Pt.slots] at X36 l36 y36 z36 st36 hQ36
      rw [l36, y36, z36] at X36
      obtain ⟨rfl, N36q, eh36⟩ := hQ36
      have N36 := Fr.app N35 N36q
      have k37 : ∀ t, Steps p.tables e below (T36.setTop (mkF m 195 #[.val (.int p0_0), .val (.int p0_1), .val (.int p0_2), .val (.int p0_3), .val (.int zqA), .val (.int zqB), .val (.int zqC), .val (.int zqM), .val (.ref ra), .val (.ref rb), .val (.int (own_fails zqC)), .val (.int (1 : Int32))] [(.int (1 : Int32))])) t → Steps p.tables e below (s₁.setTop (mkF m 118 #[.val (.int p0_0), .val (.int p0_1), .val (.int p0_2), .val (.int p0_3), .val (.int zqA), .val (.int zqB), .val (.int zqC), .val (.int zqM), .val (.ref ra), .val (.ref rb), .unset, .unset] [])) t := by
        intro t k
        refine k32 t ?_
        refine XS.ifNo X31.here hx rfl (hb hby at_142) rfl ((if0 _ _).trans (teq hc142_33).2) ?_
        refine XS.iload X31.here hx rfl (hb hby at_145) rfl ?_
        refine st34 _ ?_
        show Steps p.tables e below (T34.setTop (mkF m 150 #[.val (.int p0_0), .val (.int p0_1), .val (.int p0_2), .val (.int p0_3), .val (.int zqA), .val (.int zqB), .val (.int zqC), .val (.int zqM), .val (.ref ra), .val (.ref rb), .val (.int (own_fails zqC)), .unset] [(.int (own_fails zqB))])) _
        refine XS.ifYes X34.here hx rfl (pc0 := 150) (pc' := 163) rfl (hb hby at_150) rfl ((if0 _ _).trans (feq (fun q => hA ⟨hc142_33, q⟩)).2) (by decide) (by decide) ?_
        refine XS.iconst X34.here hx rfl (hb hby at_163) ?_
        refine XS.goto X34.here hx rfl (pc0 := 164) (pc' := 168) rfl (hb hby at_164) (by decide) (by decide) ?_
        refine XS.istore X34.here hx rfl (hb hby at_168) rfl (l' := #[.val (.int p0_0), .val (.int p0_1), .val (.int p0_2), .val (.int p0_3), .val (.int zqA), .val (.int zqB), .val (.int zqC), .val (.int zqM), .val (.ref ra), .val (.ref rb), .val (.int (own_fails zqC)), .val (.int (1 : Int32))]) rfl ?_
        refine XS.aload X34.here hx rfl (hb hby at_170) rfl rfl ?_
        refine st35.trans ?_
        refine XS.iload X35.here hx rfl (hb hby at_175) rfl ?_
        refine XS.icmpNo X35.here hx rfl (hb hby at_177) rfl (teq (by decide : (1 : Int32) = (1 : Int32))).2 ?_
        refine XS.aload X35.here hx rfl (hb hby at_180) rfl rfl ?_
        refine st36.trans ?_
        refine XS.iload X36.here hx rfl (hb hby at_185) rfl ?_
        refine XS.icmpNo X36.here hx rfl (hb hby at_187) rfl (teq hB.symm).2 ?_
        refine XS.iconst X36.here hx rfl (hb hby at_190) ?_
        refine XS.goto X36.here hx rfl (pc0 := 191) (pc' := 195) rfl (hb hby at_191) (by decide) (by decide) ?_
        exact k
      obtain ⟨fs, hr, hrun, hended, hE1, hE2, hE3, hE4⟩ := X36.leaveW hS (by rw [eh36]; exact hk) (v := some (.int (1 : Int32))) (fun h => by rw [hret] at h; cases h)
      have hCE := hCR.trans (CHv.at X36 hZ hEL hCR.1)
      refine ⟨_, _, k37 _ ?_, hrun, hended, _, _, rfl, ?_, (by show CHr Z consts_1 s.vm s.heap T36.vm T36.heap; rw [hh, eh36]; exact hCE), ⟨_, rfl⟩, hE2, hE3, hE4.mono (by decide) (by decide)⟩
      · exact retN X36 hx (t := .boolean) hret (by simp) (hb hby at_195) hr
      · skip
        exact ⟨rfl, N36⟩
    · skip
      obtain ⟨cq38, kq38, q38a, q38b, q38c⟩ := isOf hZ eh31 G14_0
      obtain ⟨_, _, ⟨T38, L38, k38, n38⟩, -, X38, ⟨Lc38, hQ38, l38, y38, z38⟩, st38⟩ := X31.virtualBack hx (y := (⟨"com/example/batchrake/batchrake/DeleteReport", "hasFailures", "()Z"⟩ : MethodName)) (z := (⟨"com/example/batchrake/batchrake/DeleteReport", "hasFailures", "()Z"⟩ : MethodName)) hown (mvT hZ (wd hw 199 rfl)) (mvT hZ (wd hw 200 rfl)) (notFace_of_selects (args := #[]) (mvT hZ (wd hw 202 rfl))) (mvT hZ (wd hw 202 rfl)) (mvT hZ (wd hw 201 rfl)) (by decide) (backOf (W := 0) (rm45 l Z a0 hw [] ra la ks T14.heap n0 Zs14 G14_1 G14_2 G14_3 (own_ks _ hks).1) hZ (wd hw 203 rfl) (wd hw 3 rfl) (by decide) (by decide)) q38a q38c (g := (mkF m 172 #[.val (.int p0_0), .val (.int p0_1), .val (.int p0_2), .val (.int p0_3), .val (.int zqA), .val (.int zqB), .val (.int zqC), .val (.int zqM), .val (.ref ra), .val (.ref rb), .val (.int (own_fails zqC)), .val (.int (1 : Int32))] [(.ref ra)])) rfl (by rw [hml]; rfl) (Steps.refl _) (argsL := []) (rest := []) (lenOf pd_16 rfl) rfl (by show 2 * 0 + _ ≤ _; exact Nat.le_of_eq rfl) (hb hby at_172) (fun _ _ => ⟨rfl, eh31, (by decide : 35 + 0 ≤ _), (by decide : 800 + 0 ≤ _)⟩)
      dsimp only [Pt.U, Pt.locs, Pt.cells, Pt.slots] at X38 l38 y38 z38 st38 hQ38
      rw [l38, y38, z38] at X38
      obtain ⟨rfl, N38q, eh38⟩ := hQ38
      have N38 := Fr.app N31 N38q
      obtain ⟨cq39, kq39, q39a, q39b, q39c⟩ := isOf hZ eh38 F22
      obtain ⟨_, _, ⟨T39, L39, k39, n39⟩, -, X39, ⟨Lc39, hQ39, l39, y39, z39⟩, st39⟩ := X38.virtualBack hx (y := (⟨"com/example/batchrake/batchrake/DeleteReport", "hasFailures", "()Z"⟩ : MethodName)) (z := (⟨"com/example/batchrake/batchrake/DeleteReport", "hasFailures", "()Z"⟩ : MethodName)) hown (mvT hZ (wd hw 199 rfl)) (mvT hZ (wd hw 200 rfl)) (notFace_of_selects (args := #[]) (mvT hZ (wd hw 202 rfl))) (mvT hZ (wd hw 202 rfl)) (mvT hZ (wd hw 201 rfl)) (by decide) (backOf (W := 0) (rm43 l Z a0 hw [] rb lb T14.heap n0 Zs14 F23 F26 F28) hZ (wd hw 203 rfl) (wd hw 3 rfl) (by decide) (by decide)) q39a q39c (g := (mkF m 182 #[.val (.int p0_0), .val (.int p0_1), .val (.int p0_2), .val (.int p0_3), .val (.int zqA), .val (.int zqB), .val (.int zqC), .val (.int zqM), .val (.ref ra), .val (.ref rb), .val (.int (own_fails zqC)), .val (.int (1 : Int32))] [(.ref rb)])) rfl (by rw [hml]; rfl) (Steps.refl _) (argsL := []) (rest := []) (lenOf pd_16 rfl) rfl (by show 2 * 0 + _ ≤ _; exact Nat.le_of_eq rfl) (hb hby at_182) (fun _ _ => ⟨rfl, eh38, (by decide : 35 + 0 ≤ _), (by decide : 800 + 0 ≤ _)⟩)
      dsimp only [Pt.U, Pt.locs, Pt.cells, Pt.slots] at X39 l39 y39 z39 st39 hQ39
      rw [l39, y39, z39] at X39
      obtain ⟨rfl, N39q, eh39⟩ := hQ39
      have N39 := Fr.app N38 N39q
      have k40 : ∀ t, Steps p.tables e below (T39.setTop (mkF m 195 #[.val (.int p0_0), .val (.int p0_1), .val (.int p0_2), .val (.int p0_3), .val (.int zqA), .val (.int zqB), .val (.int zqC), .val (.int zqM), .val (.ref ra), .val (.ref rb), .val (.int (own_fails zqC)), .val (.int (1 : Int32))] [(.int (1 : Int32))])) t → Steps p.tables e below (s₁.setTop (mkF m 118 #[.val (.int p0_0), .val (.int p0_1), .val (.int p0_2), .val (.int p0_3), .val (.int zqA), .val (.int zqB), .val (.int zqC), .val (.int zqM), .val (.ref ra), .val (.ref rb), .unset, .unset] [])) t := by
        intro t k
        refine k32 t ?_
        refine XS.ifYes X31.here hx rfl (pc0 := 142) (pc' := 163) rfl (hb hby at_142) rfl ((if0 _ _).trans (feq hc142_33).2) (by decide) (by decide) ?_
        refine XS.iconst X31.here hx rfl (hb hby at_163) ?_
        refine XS.goto X31.here hx rfl (pc0 := 164) (pc' := 168) rfl (hb hby at_164) (by decide) (by decide) ?_
        show Steps p.tables e below (T31.setTop (mkF m 168 #[.val (.int p0_0), .val (.int p0_1), .val (.int p0_2), .val (.int p0_3), .val (.int zqA), .val (.int zqB), .val (.int zqC), .val (.int zqM), .val (.ref ra), .val (.ref rb), .val (.int (own_fails zqC)), .unset] [(.int (1 : Int32))])) _
        refine XS.istore X31.here hx rfl (hb hby at_168) rfl (l' := #[.val (.int p0_0), .val (.int p0_1), .val (.int p0_2), .val (.int p0_3), .val (.int zqA), .val (.int zqB), .val (.int zqC), .val (.int zqM), .val (.ref ra), .val (.ref rb), .val (.int (own_fails zqC)), .val (.int (1 : Int32))]) rfl ?_
        refine XS.aload X31.here hx rfl (hb hby at_170) rfl rfl ?_
        refine st38.trans ?_
        refine XS.iload X38.here hx rfl (hb hby at_175) rfl ?_
        refine XS.icmpNo X38.here hx rfl (hb hby at_177) rfl (teq (by decide : (1 : Int32) = (1 : Int32))).2 ?_
        refine XS.aload X38.here hx rfl (hb hby at_180) rfl rfl ?_
        refine st39.trans ?_
        refine XS.iload X39.here hx rfl (hb hby at_185) rfl ?_
        refine XS.icmpNo X39.here hx rfl (hb hby at_187) rfl (teq hB.symm).2 ?_
        refine XS.iconst X39.here hx rfl (hb hby at_190) ?_
        refine XS.goto X39.here hx rfl (pc0 := 191) (pc' := 195) rfl (hb hby at_191) (by decide) (by decide) ?_
        exact k
      obtain ⟨fs, hr, hrun, hended, hE1, hE2, hE3, hE4⟩ := X39.leaveW hS (by rw [eh39]; exact hk) (v := some (.int (1 : Int32))) (fun h => by rw [hret] at h; cases h)
      have hCE := hCR.trans (CHv.at X39 hZ hEL hCR.1)
      refine ⟨_, _, k40 _ ?_, hrun, hended, _, _, rfl, ?_, (by show CHr Z consts_1 s.vm s.heap T39.vm T39.heap; rw [hh, eh39]; exact hCE), ⟨_, rfl⟩, hE2, hE3, hE4.mono (by decide) (by decide)⟩
      · exact retN X39 hx (t := .boolean) hret (by simp) (hb hby at_195) hr
      · skip
        exact ⟨rfl, N39⟩
set_option maxRecDepth 65536 in
set_option maxHeartbeats 40000000 in
theorem sgDP1 {p : Program} {l : Launch} {e : Env} {s : State} {m : MethodId} {args : Array Value} {below : List Frame} {meth : Method} {c : Code} {s₁ : State} {locs : List Loc} {vm0 : Vm} {k0 : Nat} {hs0 : Heap} {Z : State} {a0 : Array Value} (hw : ∀ d ∈ tables_1, d.before a0 Z = true) (hEL : EW Z a0 consts_1) (wS : ∀ a ∈ Bundle.stringAtoms, a.before a0 Z = true) (p0_0 : Int32) (p0_1 : Int32) (p0_2 : Int32) (p0_3 : Int32) (zqA : Int32) (zqB : Int32) (zqC : Int32) (zqM : Int32) (ra : Addr) (la : Addr) (da : Int32) (na : Int32) (ma : Int32) (ea : Addr) (ka : ClassId) (ks : Int32) (va : List Value) (rb : Addr) (lb : Addr) (db : Int32) (nb : Int32) (mb : Int32) (eb : Addr) (kb : ClassId) (bx0 : Addr) (u_DEFAULTCAPACITY_EMPTY_ELEMENTDATA : Addr) (cl_u_DEFAULTCAPACITY_EMPTY_ELEMENTDATA : Cell) (u_DELETED : Addr) (u__SwitchMap_com_example_batchrake_batchrake_Outcome : Addr) (cl_u__SwitchMap_com_example_batchrake_batchrake_Outcome : Cell) (u_CONFLICT : Addr) (u_BAD_REQUEST : Addr) (u_STORE_ERROR : Addr) (u_NOT_FOUND : Addr) (cs : Int32) (mr : Addr) (h0 : Heap) (n0 : Nat) (Z0 : n0 ≤ h0.size) (B0 : own_base Z n0 h0 u_DEFAULTCAPACITY_EMPTY_ELEMENTDATA cl_u_DEFAULTCAPACITY_EMPTY_ELEMENTDATA u_DELETED u__SwitchMap_com_example_batchrake_batchrake_Outcome cl_u__SwitchMap_com_example_batchrake_batchrake_Outcome u_CONFLICT u_BAD_REQUEST u_STORE_ERROR u_NOT_FOUND cs) (AEr : Exa Z h0 ra "com/example/batchrake/batchrake/DeleteReport") (AFf : Fld Z h0 ra "com/example/batchrake/batchrake/DeleteReport" "failures" "Ljava/util/List;" (.ref la)) (AFd : Fld Z h0 ra "com/example/batchrake/batchrake/DeleteReport" "deleted" "I" (.int da)) (AFn : Fld Z h0 ra "com/example/batchrake/batchrake/DeleteReport" "notFound" "I" (.int na)) (AEl : Exa Z h0 la "java/util/ArrayList") (AFm : Fld Z h0 la "java/util/AbstractList" "modCount" "I" (.int ma)) (AFz : Fld Z h0 la "java/util/ArrayList" "size" "I" (.int ks)) (AFe : Fld Z h0 la "java/util/ArrayList" "elementData" "[Ljava/lang/Object;" (.ref ea)) (AVe : Arv Z h0 ea ka (.object "java/lang/Object") (10 : Int32) va .null) (AEd : Exa Z h0 ea "[Ljava/lang/Object;") (BEr : Exa Z h0 rb "com/example/batchrake/batchrake/DeleteReport") (BFf : Fld Z h0 rb "com/example/batchrake/batchrake/DeleteReport" "failures" "Ljava/util/List;" (.ref lb)) (BFd : Fld Z h0 rb "com/example/batchrake/batchrake/DeleteReport" "deleted" "I" (.int db)) (BFn : Fld Z h0 rb "com/example/batchrake/batchrake/DeleteReport" "notFound" "I" (.int nb)) (BEl : Exa Z h0 lb "java/util/ArrayList") (BFm : Fld Z h0 lb "java/util/AbstractList" "modCount" "I" (.int mb)) (BFz : Fld Z h0 lb "java/util/ArrayList" "size" "I" (.int (1 : Int32))) (BFe : Fld Z h0 lb "java/util/ArrayList" "elementData" "[Ljava/lang/Object;" (.ref eb)) (BVe : Arv Z h0 eb kb (.object "java/lang/Object") (10 : Int32) [(.ref bx0), .null, .null, .null, .null, .null, .null, .null, .null, .null] .null) (BEd : Exa Z h0 eb "[Ljava/lang/Object;") (BEbx0 : Exa Z h0 bx0 "com/example/batchrake/batchrake/DeleteReport$Failure") (hcs : ¬ (cs = (0 : Int32))) (hmir : Mir Z "[Ljava/lang/Object;" mr) (ne_ra_la : ra ≠ la) (ne_ra_ea : ra ≠ ea) (ne_ra_rb : ra ≠ rb) (ne_ra_lb : ra ≠ lb) (ne_ra_eb : ra ≠ eb) (ne_la_ea : la ≠ ea) (ne_la_rb : la ≠ rb) (ne_la_lb : la ≠ lb) (ne_la_eb : la ≠ eb) (ne_ea_rb : ea ≠ rb) (ne_ea_lb : ea ≠ lb) (ne_ea_eb : ea ≠ eb) (ne_rb_lb : rb ≠ lb) (ne_rb_eb : rb ≠ eb) (ne_lb_eb : lb ≠ eb) (hovA : Ovr Z ka "java/lang/Object") (hks : ks = (1 : Int32) ∨ ks = (2 : Int32)) (hva : va.length = 10) (hovB : Ovr Z kb "java/lang/Object") (hA : ¬ (own_fails zqA = (0 : Int32) ∧ own_fails zqB = (0 : Int32))) (hB : ¬ (own_fails zqC = (0 : Int32))) (g_ra : n0 ≤ ra) (g_la : n0 ≤ la) (g_ea : n0 ≤ ea) (g_rb : n0 ≤ rb) (g_lb : n0 ≤ lb) (g_eb : n0 ≤ eb)
    (X0 : Stand p l e room_1 (s.setVm vm0) m args below meth c s₁ locs 34 800) (hx : p.tables.exec = Jvm.exec) (hZ : Z.Warmed39 (s.setVm vm0).vm) (hby : c.code = code) (hml : c.maxLocals = 12) (hown : (s.setVm vm0).vm.findClass "com/example/batchrake/batchrake/DeleteReportHasFailuresPinLaw" = some m.cls) (hret : meth.sig.returnType = some .boolean) (hlk : meth.locks = false) (e0 : s₁.heap = h0) (N0 : Fr n0 locs) (hh : s.heap = hs0) (hS : s.Since vm0 k0) (hk : k0 ≤ h0.size) (hCR : CHr Z consts_1 s.vm hs0 vm0 h0) :
    ∃ t o, Steps p.tables e below (s₁.setTop (mkF m 118 #[.val (.int p0_0), .val (.int p0_1), .val (.int p0_2), .val (.int p0_3), .val (.int zqA), .val (.int zqB), .val (.int zqC), .val (.int zqM), .val (.ref ra), .val (.ref rb), .unset, .unset] [])) t ∧ t.status = .running ∧ Ended t below o ∧ ∃ v L, o = .returned v ∧ (v = some (.int (1 : Int32)) ∧ Fr n0 L) ∧ CHr Z consts_1 s.vm s.heap t.vm t.heap ∧ ReturnedEndW s o t L 48 1216 := by
  have pre0 : ∀ t, Steps p.tables e below (s₁.setTop (mkF m 118 #[.val (.int p0_0), .val (.int p0_1), .val (.int p0_2), .val (.int p0_3), .val (.int zqA), .val (.int zqB), .val (.int zqC), .val (.int zqM), .val (.ref ra), .val (.ref rb), .unset, .unset] [])) t → Steps p.tables e below (s₁.setTop (mkF m 118 #[.val (.int p0_0), .val (.int p0_1), .val (.int p0_2), .val (.int p0_3), .val (.int zqA), .val (.int zqB), .val (.int zqC), .val (.int zqM), .val (.ref ra), .val (.ref rb), .unset, .unset] [])) t := fun t k => k
  have k1 : ∀ t, Steps p.tables e below (s₁.setTop (mkF m 120 #[.val (.int p0_0), .val (.int p0_1), .val (.int p0_2), .val (.int p0_3), .val (.int zqA), .val (.int zqB), .val (.int zqC), .val (.int zqM), .val (.ref ra), .val (.ref rb), .unset, .unset] [(.int zqM)])) t → Steps p.tables e below (s₁.setTop (mkF m 118 #[.val (.int p0_0), .val (.int p0_1), .val (.int p0_2), .val (.int p0_3), .val (.int zqA), .val (.int zqB), .val (.int zqC), .val (.int zqM), .val (.ref ra), .val (.ref rb), .unset, .unset] [])) t := by
    intro t k
    refine pre0 t ?_
    refine XS.iload X0.here hx rfl (hb hby at_118) rfl ?_
    exact k
  by_cases hc120_2 : zqM = (0 : Int32)
  · skip
    obtain ⟨_, _, ⟨T3, L3, k3, n3⟩, -, X3, ⟨Lc3, hQ3, l3, y3, z3⟩, st3⟩ := Jvm.LawKit.callS X0 hx (y := (⟨"com/example/batchrake/batchrake/DeleteReportHasFailuresPinLaw", "fails", "(I)Z"⟩ : MethodName)) hown (mvT hZ (wd hw 196 rfl)) (mvT hZ (wd hw 197 rfl)) (mvT hZ (wd hw 53 rfl)) (mvT hZ (wd hw 198 rfl)) (by decide) (backOf (W := 0) (rm13 l Z a0 hw [] zqC h0 n0 Z0 ) hZ (wd hw 198 rfl) (wd hw 53 rfl) (by decide) (by decide)) (g := (mkF m 132 #[.val (.int p0_0), .val (.int p0_1), .val (.int p0_2), .val (.int p0_3), .val (.int zqA), .val (.int zqB), .val (.int zqC), .val (.int zqM), .val (.ref ra), .val (.ref rb), .unset, .unset] [(.int zqC)])) rfl (by rw [hml]; rfl) (argsL := [(.int zqC)]) (rest := []) (lenOf pd_17 rfl) rfl (by show 2 * 0 + _ ≤ _; exact Nat.le_of_eq rfl) (hb hby at_132) (fun _ _ => ⟨rfl, e0, (by decide : 34 + 0 ≤ _), (by decide : 800 + 0 ≤ _)⟩)
    dsimp only [Pt.U, Pt.locs, Pt.cells, Pt.slots] at X3 l3 y3 z3 st3 hQ3
    rw [l3, y3, z3] at X3
    obtain ⟨rfl, N3q, eh3⟩ := hQ3
    have N3 := Fr.app N0 N3q
    obtain ⟨_, _, ⟨T4, L4, k4, n4⟩, -, X4, ⟨Lc4, hQ4, l4, y4, z4⟩, st4⟩ := Jvm.LawKit.callS X3 hx (y := (⟨"com/example/batchrake/batchrake/DeleteReportHasFailuresPinLaw", "fails", "(I)Z"⟩ : MethodName)) hown (mvT hZ (wd hw 196 rfl)) (mvT hZ (wd hw 197 rfl)) (mvT hZ (wd hw 53 rfl)) (mvT hZ (wd hw 198 rfl)) (by decide) (backOf (W := 0) (rm13 l Z a0 hw [] zqA h0 n0 Z0 ) hZ (wd hw 198 rfl) (wd hw 53 rfl) (by decide) (by decide)) (g := (mkF m 139 #[.val (.int p0_0), .val (.int p0_1), .val (.int p0_2), .val (.int p0_3), .val (.int zqA), .val (.int zqB), .val (.int zqC), .val (.int zqM), .val (.ref ra), .val (.ref rb), .val (.int (own_fails zqC)), .unset] [(.int zqA)])) rfl (by rw [hml]; rfl) (argsL := [(.int zqA)]) (rest := []) (lenOf pd_17 rfl) rfl (by show 2 * 0 + _ ≤ _; exact Nat.le_of_eq rfl) (hb hby at_139) (fun _ _ => ⟨rfl, eh3, (by decide : 34 + 0 ≤ _), (by decide : 800 + 0 ≤ _)⟩)
    dsimp only [Pt.U, Pt.locs, Pt.cells, Pt.slots] at X4 l4 y4 z4 st4 hQ4
    rw [l4, y4, z4] at X4
    obtain ⟨rfl, N4q, eh4⟩ := hQ4
    have N4 := Fr.app N3 N4q
    have k5 : ∀ t, Steps p.tables e below (T4.setTop (mkF m 142 #[.val (.int p0_0), .val (.int p0_1), .val (.int p0_2), .val (.int p0_3), .val (.int zqA), .val (.int zqB), .val (.int zqC), .val (.int zqM), .val (.ref ra), .val (.ref rb), .val (.int (own_fails zqC)), .unset] [(.int (own_fails zqA))])) t → Steps p.tables e below (s₁.setTop (mkF m 118 #[.val (.int p0_0), .val (.int p0_1), .val (.int p0_2), .val (.int p0_3), .val (.int zqA), .val (.int zqB), .val (.int zqC), .val (.int zqM), .val (.ref ra), .val (.ref rb), .unset, .unset] [])) t := by
      intro t k
      refine k1 t ?_
      refine XS.ifYes X0.here hx rfl (pc0 := 120) (pc' := 130) rfl (hb hby at_120) rfl ((if0 _ _).trans (teq hc120_2).1) (by decide) (by decide) ?_
      refine XS.iload X0.here hx rfl (hb hby at_130) rfl ?_
      refine st3 _ ?_
      refine XS.istore X3.here hx rfl (hb hby at_135) rfl (l' := #[.val (.int p0_0), .val (.int p0_1), .val (.int p0_2), .val (.int p0_3), .val (.int zqA), .val (.int zqB), .val (.int zqC), .val (.int zqM), .val (.ref ra), .val (.ref rb), .val (.int (own_fails zqC)), .unset]) rfl ?_
      refine XS.iload X3.here hx rfl (hb hby at_137) rfl ?_
      refine st4 _ ?_
      exact k
    by_cases hc142_6 : (own_fails zqA) = (0 : Int32)
    · skip
      obtain ⟨_, _, ⟨T7, L7, k7, n7⟩, -, X7, ⟨Lc7, hQ7, l7, y7, z7⟩, st7⟩ := Jvm.LawKit.callS X4 hx (y := (⟨"com/example/batchrake/batchrake/DeleteReportHasFailuresPinLaw", "fails", "(I)Z"⟩ : MethodName)) hown (mvT hZ (wd hw 196 rfl)) (mvT hZ (wd hw 197 rfl)) (mvT hZ (wd hw 53 rfl)) (mvT hZ (wd hw 198 rfl)) (by decide) (backOf (W := 0) (rm13 l Z a0 hw [] zqB h0 n0 Z0 ) hZ (wd hw 198 rfl) (wd hw 53 rfl) (by decide) (by decide)) (g := (mkF m 147 #[.val (.int p0_0), .val (.int p0_1), .val (.int p0_2), .val (.int p0_3), .val (.int zqA), .val (.int zqB), .val (.int zqC), .val (.int zqM), .val (.ref ra), .val (.ref rb), .val (.int (own_fails zqC)), .unset] [(.int zqB)])) rfl (by rw [hml]; rfl) (argsL := [(.int zqB)]) (rest := []) (lenOf pd_17 rfl) rfl (by show 2 * 0 + _ ≤ _; exact Nat.le_of_eq rfl) (hb hby at_147) (fun _ _ => ⟨rfl, eh4, (by decide : 34 + 0 ≤ _), (by decide : 800 + 0 ≤ _)⟩)
      dsimp only [Pt.U, Pt.locs, Pt.cells, Pt.slots] at X7 l7 y7 z7 st7 hQ7
      rw [l7, y7, z7] at X7
      obtain ⟨rfl, N7q, eh7⟩ := hQ7
      have N7 := Fr.app N4 N7q
      obtain ⟨cq8, kq8, q8a, q8b, q8c⟩ := isOf hZ eh7 AEr
      obtain ⟨_, _, ⟨T8, L8, k8, n8⟩, -, X8, ⟨Lc8, hQ8, l8, y8, z8⟩, st8⟩ := X7.virtualBack hx (y := (⟨"com/example/batchrake/batchrake/DeleteReport", "hasFailures", "()Z"⟩ : MethodName)) (z := (⟨"com/example/batchrake/batchrake/DeleteReport", "hasFailures", "()Z"⟩ : MethodName)) hown (mvT hZ (wd hw 199 rfl)) (mvT hZ (wd hw 200 rfl)) (notFace_of_selects (args := #[]) (mvT hZ (wd hw 202 rfl))) (mvT hZ (wd hw 202 rfl)) (mvT hZ (wd hw 201 rfl)) (by decide) (backOf (W := 0) (rm45 l Z a0 hw [] ra la ks h0 n0 Z0 AFf AEl AFz (own_ks _ hks).1) hZ (wd hw 203 rfl) (wd hw 3 rfl) (by decide) (by decide)) q8a q8c (g := (mkF m 172 #[.val (.int p0_0), .val (.int p0_1), .val (.int p0_2), .val (.int p0_3), .val (.int zqA), .val (.int zqB), .val (.int zqC), .val (.int zqM), .val (.ref ra), .val (.ref rb), .val (.int (own_fails zqC)), .val (.int (1 : Int32))] [(.ref ra)])) rfl (by rw [hml]; rfl) (Steps.refl _) (argsL := []) (rest := []) (lenOf pd_16 rfl) rfl (by show 2 * 0 + _ ≤ _; exact Nat.le_of_eq rfl) (hb hby at_172) (fun _ _ => ⟨rfl, eh7, (by decide : 34 + 0 ≤ _), (by decide : 800 + 0 ≤ _)⟩)
      dsimp only [Pt.U, Pt.locs, Pt.cells, Pt.slots] at X8 l8 y8 z8 st8 hQ8
      rw [l8, y8, z8] at X8
      obtain ⟨rfl, N8q, eh8⟩ := hQ8
      have N8 := Fr.app N7 N8q
      obtain ⟨cq9, kq9, q9a, q9b, q9c⟩ := isOf hZ eh8 BEr
      obtain ⟨_, _, ⟨T9, L9, k9, n9⟩, -, X9, ⟨Lc9, hQ9, l9, y9, z9⟩, st9⟩ := X8.virtualBack hx (y := (⟨"com/example/batchrake/batchrake/DeleteReport", "hasFailures", "()Z"⟩ : MethodName)) (z := (⟨"com/example/batchrake/batchrake/DeleteReport", "hasFailures", "()Z"⟩ : MethodName)) hown (mvT hZ (wd hw 199 rfl)) (mvT hZ (wd hw 200 rfl)) (notFace_of_selects (args := #[]) (mvT hZ (wd hw 202 rfl))) (mvT hZ (wd hw 202 rfl)) (mvT hZ (wd hw 201 rfl)) (by decide) (backOf (W := 0) (rm45 l Z a0 hw [] rb lb (1 : Int32) h0 n0 Z0 BFf BEl BFz (by decide : ¬ ((1 : Int32) = (0 : Int32)))) hZ (wd hw 203 rfl) (wd hw 3 rfl) (by decide) (by decide)) q9a q9c (g := (mkF m 182 #[.val (.int p0_0), .val (.int p0_1), .val (.int p0_2), .val (.int p0_3), .val (.int zqA), .val (.int zqB), .val (.int zqC), .val (.int zqM), .val (.ref ra), .val (.ref rb), .val (.int (own_fails zqC)), .val (.int (1 : Int32))] [(.ref rb)])) rfl (by rw [hml]; rfl) (Steps.refl _) (argsL := []) (rest := []) (lenOf pd_16 rfl) rfl (by show 2 * 0 + _ ≤ _; exact Nat.le_of_eq rfl) (hb hby at_182) (fun _ _ => ⟨rfl, eh8, (by decide : 34 + 0 ≤ _), (by decide : 800 + 0 ≤ _)⟩)
      dsimp only [Pt.U, Pt.locs, Pt.cells, Pt.slots] at X9 l9 y9 z9 st9 hQ9
      rw [l9, y9, z9] at X9
      obtain ⟨rfl, N9q, eh9⟩ := hQ9
      have N9 := Fr.app N8 N9q
      have k10 : ∀ t, Steps p.tables e below (T9.setTop (mkF m 195 #[.val (.int p0_0), .val (.int p0_1), .val (.int p0_2), .val (.int p0_3), .val (.int zqA), .val (.int zqB), .val (.int zqC), .val (.int zqM), .val (.ref ra), .val (.ref rb), .val (.int (own_fails zqC)), .val (.int (1 : Int32))] [(.int (1 : Int32))])) t → Steps p.tables e below (s₁.setTop (mkF m 118 #[.val (.int p0_0), .val (.int p0_1), .val (.int p0_2), .val (.int p0_3), .val (.int zqA), .val (.int zqB), .val (.int zqC), .val (.int zqM), .val (.ref ra), .val (.ref rb), .unset, .unset] [])) t := by
        intro t k
        refine k5 t ?_
        refine XS.ifNo X4.here hx rfl (hb hby at_142) rfl ((if0 _ _).trans (teq hc142_6).2) ?_
        refine XS.iload X4.here hx rfl (hb hby at_145) rfl ?_
        refine st7 _ ?_
        refine XS.ifYes X7.here hx rfl (pc0 := 150) (pc' := 163) rfl (hb hby at_150) rfl ((if0 _ _).trans (feq (fun q => hA ⟨hc142_6, q⟩)).2) (by decide) (by decide) ?_
        refine XS.iconst X7.here hx rfl (hb hby at_163) ?_
        refine XS.goto X7.here hx rfl (pc0 := 164) (pc' := 168) rfl (hb hby at_164) (by decide) (by decide) ?_
        show Steps p.tables e below (T7.setTop (mkF m 168 #[.val (.int p0_0), .val (.int p0_1), .val (.int p0_2), .val (.int p0_3), .val (.int zqA), .val (.int zqB), .val (.int zqC), .val (.int zqM), .val (.ref ra), .val (.ref rb), .val (.int (own_fails zqC)), .unset] [(.int (1 : Int32))])) _
        refine XS.istore X7.here hx rfl (hb hby at_168) rfl (l' := #[.val (.int p0_0), .val (.int p0_1), .val (.int p0_2), .val (.int p0_3), .val (.int zqA), .val (.int zqB), .val (.int zqC), .val (.int zqM), .val (.ref ra), .val (.ref rb), .val (.int (own_fails zqC)), .val (.int (1 : Int32))]) rfl ?_
        refine XS.aload X7.here hx rfl (hb hby at_170) rfl rfl ?_
        refine st8.trans ?_
        refine XS.iload X8.here hx rfl (hb hby at_175) rfl ?_
        refine XS.icmpNo X8.here hx rfl (hb hby at_177) rfl (teq (by decide : (1 : Int32) = (1 : Int32))).2 ?_
        refine XS.aload X8.here hx rfl (hb hby at_180) rfl rfl ?_
        refine st9.trans ?_
        refine XS.iload X9.here hx rfl (hb hby at_185) rfl ?_
        refine XS.icmpNo X9.here hx rfl (hb hby at_187) rfl (teq (own_f1 _ hB)).2 ?_
        refine XS.iconst X9.here hx rfl (hb hby at_190) ?_
        refine XS.goto X9.here hx rfl (pc0 := 191) (pc' := 195) rfl (hb hby at_191) (by decide) (by decide) ?_
        exact k
      obtain ⟨fs, hr, hrun, hended, hE1, hE2, hE3, hE4⟩ := X9.leaveW hS (by rw [eh9]; exact hk) (v := some (.int (1 : Int32))) (fun h => by rw [hret] at h; cases h)
      have hCE := hCR.trans (CHv.at X9 hZ hEL hCR.1)
      refine ⟨_, _, k10 _ ?_, hrun, hended, _, _, rfl, ?_, (by show CHr Z consts_1 s.vm s.heap T9.vm T9.heap; rw [hh, eh9]; exact hCE), ⟨_, rfl⟩, hE2, hE3, hE4.mono (by decide) (by decide)⟩
      · exact retN X9 hx (t := .boolean) hret (by simp) (hb hby at_195) hr
      · skip
        exact ⟨rfl, N9⟩
    · skip
      obtain ⟨cq11, kq11, q11a, q11b, q11c⟩ := isOf hZ eh4 AEr
      obtain ⟨_, _, ⟨T11, L11, k11, n11⟩, -, X11, ⟨Lc11, hQ11, l11, y11, z11⟩, st11⟩ := X4.virtualBack hx (y := (⟨"com/example/batchrake/batchrake/DeleteReport", "hasFailures", "()Z"⟩ : MethodName)) (z := (⟨"com/example/batchrake/batchrake/DeleteReport", "hasFailures", "()Z"⟩ : MethodName)) hown (mvT hZ (wd hw 199 rfl)) (mvT hZ (wd hw 200 rfl)) (notFace_of_selects (args := #[]) (mvT hZ (wd hw 202 rfl))) (mvT hZ (wd hw 202 rfl)) (mvT hZ (wd hw 201 rfl)) (by decide) (backOf (W := 0) (rm45 l Z a0 hw [] ra la ks h0 n0 Z0 AFf AEl AFz (own_ks _ hks).1) hZ (wd hw 203 rfl) (wd hw 3 rfl) (by decide) (by decide)) q11a q11c (g := (mkF m 172 #[.val (.int p0_0), .val (.int p0_1), .val (.int p0_2), .val (.int p0_3), .val (.int zqA), .val (.int zqB), .val (.int zqC), .val (.int zqM), .val (.ref ra), .val (.ref rb), .val (.int (own_fails zqC)), .val (.int (1 : Int32))] [(.ref ra)])) rfl (by rw [hml]; rfl) (Steps.refl _) (argsL := []) (rest := []) (lenOf pd_16 rfl) rfl (by show 2 * 0 + _ ≤ _; exact Nat.le_of_eq rfl) (hb hby at_172) (fun _ _ => ⟨rfl, eh4, (by decide : 34 + 0 ≤ _), (by decide : 800 + 0 ≤ _)⟩)
      dsimp only [Pt.U, Pt.locs, Pt.cells, Pt.slots] at X11 l11 y11 z11 st11 hQ11
      rw [l11, y11, z11] at X11
      obtain ⟨rfl, N11q, eh11⟩ := hQ11
      have N11 := Fr.app N4 N11q
      obtain ⟨cq12, kq12, q12a, q12b, q12c⟩ := isOf hZ eh11 BEr
      obtain ⟨_, _, ⟨T12, L12, k12, n12⟩, -, X12, ⟨Lc12, hQ12, l12, y12, z12⟩, st12⟩ := X11.virtualBack hx (y := (⟨"com/example/batchrake/batchrake/DeleteReport", "hasFailures", "()Z"⟩ : MethodName)) (z := (⟨"com/example/batchrake/batchrake/DeleteReport", "hasFailures", "()Z"⟩ : MethodName)) hown (mvT hZ (wd hw 199 rfl)) (mvT hZ (wd hw 200 rfl)) (notFace_of_selects (args := #[]) (mvT hZ (wd hw 202 rfl))) (mvT hZ (wd hw 202 rfl)) (mvT hZ (wd hw 201 rfl)) (by decide) (backOf (W := 0) (rm45 l Z a0 hw [] rb lb (1 : Int32) h0 n0 Z0 BFf BEl BFz (by decide : ¬ ((1 : Int32) = (0 : Int32)))) hZ (wd hw 203 rfl) (wd hw 3 rfl) (by decide) (by decide)) q12a q12c (g := (mkF m 182 #[.val (.int p0_0), .val (.int p0_1), .val (.int p0_2), .val (.int p0_3), .val (.int zqA), .val (.int zqB), .val (.int zqC), .val (.int zqM), .val (.ref ra), .val (.ref rb), .val (.int (own_fails zqC)), .val (.int (1 : Int32))] [(.ref rb)])) rfl (by rw [hml]; rfl) (Steps.refl _) (argsL := []) (rest := []) (lenOf pd_16 rfl) rfl (by show 2 * 0 + _ ≤ _; exact Nat.le_of_eq rfl) (hb hby at_182) (fun _ _ => ⟨rfl, eh11, (by decide : 34 + 0 ≤ _), (by decide : 800 + 0 ≤ _)⟩)
      dsimp only [Pt.U, Pt.locs, Pt.cells, Pt.slots] at X12 l12 y12 z12 st12 hQ12
      rw [l12, y12, z12] at X12
      obtain ⟨rfl, N12q, eh12⟩ := hQ12
      have N12 := Fr.app N11 N12q
      have k13 : ∀ t, Steps p.tables e below (T12.setTop (mkF m 195 #[.val (.int p0_0), .val (.int p0_1), .val (.int p0_2), .val (.int p0_3), .val (.int zqA), .val (.int zqB), .val (.int zqC), .val (.int zqM), .val (.ref ra), .val (.ref rb), .val (.int (own_fails zqC)), .val (.int (1 : Int32))] [(.int (1 : Int32))])) t → Steps p.tables e below (s₁.setTop (mkF m 118 #[.val (.int p0_0), .val (.int p0_1), .val (.int p0_2), .val (.int p0_3), .val (.int zqA), .val (.int zqB), .val (.int zqC), .val (.int zqM), .val (.ref ra), .val (.ref rb), .unset, .unset] [])) t := by
        intro t k
        refine k5 t ?_
        refine XS.ifYes X4.here hx rfl (pc0 := 142) (pc' := 163) rfl (hb hby at_142) rfl ((if0 _ _).trans (feq hc142_6).2) (by decide) (by decide) ?_
        refine XS.iconst X4.here hx rfl (hb hby at_163) ?_
        refine XS.goto X4.here hx rfl (pc0 := 164) (pc' := 168) rfl (hb hby at_164) (by decide) (by decide) ?_
        refine XS.istore X4.here hx rfl (hb hby at_168) rfl (l' := #[.val (.int p0_0), .val (.int p0_1), .val (.int p0_2), .val (.int p0_3), .val (.int zqA), .val (.int zqB), .val (.int zqC), .val (.int zqM), .val (.ref ra), .val (.ref rb), .val (.int (own_fails zqC)), .val (.int (1 : Int32))]) rfl ?_
        refine XS.aload X4.here hx rfl (hb hby at_170) rfl rfl ?_
        refine st11.trans ?_
        show Steps p.tables e below (T11.setTop (mkF m 175 #[.val (.int p0_0), .val (.int p0_1), .val (.int p0_2), .val (.int p0_3), .val (.int zqA), .val (.int zqB), .val (.int zqC), .val (.int zqM), .val (.ref ra), .val (.ref rb), .val (.int (own_fails zqC)), .val (.int (1 : Int32))] [(.int (1 : Int32))])) _
        refine XS.iload X11.here hx rfl (hb hby at_175) rfl ?_
        refine XS.icmpNo X11.here hx rfl (hb hby at_177) rfl (teq (by decide : (1 : Int32) = (1 : Int32))).2 ?_
        refine XS.aload X11.here hx rfl (hb hby at_180) rfl rfl ?_
        refine st12.trans ?_
        refine XS.iload X12.here hx rfl (hb hby at_185) rfl ?_
        refine XS.icmpNo X12.here hx rfl (hb hby at_187) rfl (teq (own_f1 _ hB)).2 ?_
        refine XS.iconst X12.here hx rfl (hb hby at_190) ?_
        refine XS.goto X12.here hx rfl (pc0 := 191) (pc' := 195) rfl (hb hby at_191) (by decide) (by decide) ?_
        exact k
      obtain ⟨fs, hr, hrun, hended, hE1, hE2, hE3, hE4⟩ := X12.leaveW hS (by rw [eh12]; exact hk) (v := some (.int (1 : Int32))) (fun h => by rw [hret] at h; cases h)
      have hCE := hCR.trans (CHv.at X12 hZ hEL hCR.1)
      refine ⟨_, _, k13 _ ?_, hrun, hended, _, _, rfl, ?_, (by show CHr Z consts_1 s.vm s.heap T12.vm T12.heap; rw [hh, eh12]; exact hCE), ⟨_, rfl⟩, hE2, hE3, hE4.mono (by decide) (by decide)⟩
      · exact retN X12 hx (t := .boolean) hret (by simp) (hb hby at_195) hr
      · skip
        exact ⟨rfl, N12⟩
  · skip
    obtain ⟨cq14, kq14, q14a, q14b, q14c⟩ := isOf hZ e0 AEr
    obtain ⟨_, _, ⟨T14, L14, k14, n14⟩, -, X14, ⟨Lc14, hQ14, l14, y14, z14⟩, st14⟩ := X0.virtualBack hx (y := (⟨"com/example/batchrake/batchrake/DeleteReport", "add", "(Lcom/example/batchrake/batchrake/DeleteReport;)V"⟩ : MethodName)) (z := (⟨"com/example/batchrake/batchrake/DeleteReport", "add", "(Lcom/example/batchrake/batchrake/DeleteReport;)V"⟩ : MethodName)) hown (mvT hZ (wd hw 149 rfl)) (mvT hZ (wd hw 150 rfl)) (notFace_of_selects (args := #[]) (mvT hZ (wd hw 152 rfl))) (mvT hZ (wd hw 152 rfl)) (mvT hZ (wd hw 151 rfl)) (by decide) (backOf (W := 0) (rm38 l Z a0 hw [] ra rb la da na ma ea ka ks va lb db nb mb eb kb bx0 u_DEFAULTCAPACITY_EMPTY_ELEMENTDATA cl_u_DEFAULTCAPACITY_EMPTY_ELEMENTDATA mr h0 n0 Z0 (own_b0 B0) (own_b18 B0) (own_b1 B0) AEr AFf AFd AFn AEl AFm AFz AFe AVe AEd BEr BFf BFd BFn BEl BFm BFz BFe BVe BEd BEbx0 hmir (Nat.ne_of_lt (Nat.lt_of_lt_of_le (own_b21 B0) g_la)) hovA (Ne.symm ne_la_ea) hks hva (Ne.symm ne_ra_la) (Ne.symm ne_ra_ea) (Ne.symm ne_ra_rb) (Ne.symm ne_ra_lb) (Ne.symm ne_ra_eb) (Nat.ne_of_lt (Nat.lt_of_lt_of_le (own_b21 B0) g_ra)) g_ra g_la g_ea) hZ (wd hw 153 rfl) (wd hw 3 rfl) (by decide) (by decide)) q14a q14c (g := (mkF m 127 #[.val (.int p0_0), .val (.int p0_1), .val (.int p0_2), .val (.int p0_3), .val (.int zqA), .val (.int zqB), .val (.int zqC), .val (.int zqM), .val (.ref ra), .val (.ref rb), .unset, .unset] [(.ref rb), (.ref ra)])) rfl (by rw [hml]; rfl) (Steps.refl _) (argsL := [(.ref rb)]) (rest := []) (lenOf pd_18 rfl) rfl (by show 2 * 0 + _ ≤ _; exact Nat.le_of_eq rfl) (hb hby at_127) (fun _ _ => ⟨rfl, e0, (by decide : 34 + 1 ≤ _), (by decide : 800 + 1 ≤ _)⟩)
    dsimp only [Pt.U, Pt.locs, Pt.cells, Pt.slots] at X14 l14 y14 z14 st14 hQ14
    rw [l14, y14, z14] at X14
    obtain ⟨rfl, N14q, Kc14, G14_0, G14_1, G14_2, G14_3⟩ := hQ14
    have Zs14 : n0 ≤ T14.heap.size := Nat.le_trans Z0 Kc14.1
    have hCR := hCR.trans (CHr.keep Kc14 (sfS own_safe0 (sfS own_safe0 (sfS own_safe0 sf0))) hCR.1)
    have hk := Nat.le_trans hk Kc14.1
    have F15 := own_bkeep B0 Kc14 (allS g_ra (allS g_la (allS g_ea all0))) (allS (own_nsE AEr) (allS (own_nsE AEl) (allS (own_nsE AEd) all0)))
    have F21 := AEd.keep Kc14
    have F22 := BEr.keep Kc14
    have F23 := BFf.keep Kc14 (ninS (Ne.symm ne_ra_rb) (ninS (Ne.symm ne_la_rb) (ninS (Ne.symm ne_ea_rb) nin0)))
    have F24 := BFd.keep Kc14 (ninS (Ne.symm ne_ra_rb) (ninS (Ne.symm ne_la_rb) (ninS (Ne.symm ne_ea_rb) nin0)))
    have F25 := BFn.keep Kc14 (ninS (Ne.symm ne_ra_rb) (ninS (Ne.symm ne_la_rb) (ninS (Ne.symm ne_ea_rb) nin0)))
    have F26 := BEl.keep Kc14
    have F27 := BFm.keep Kc14 (ninS (Ne.symm ne_ra_lb) (ninS (Ne.symm ne_la_lb) (ninS (Ne.symm ne_ea_lb) nin0)))
    have F28 := BFz.keep Kc14 (ninS (Ne.symm ne_ra_lb) (ninS (Ne.symm ne_la_lb) (ninS (Ne.symm ne_ea_lb) nin0)))
    have F29 := BFe.keep Kc14 (ninS (Ne.symm ne_ra_lb) (ninS (Ne.symm ne_la_lb) (ninS (Ne.symm ne_ea_lb) nin0)))
    have F30 := BVe.keep Kc14 (ninS (Ne.symm ne_ra_eb) (ninS (Ne.symm ne_la_eb) (ninS (Ne.symm ne_ea_eb) nin0)))
    have F31 := BEd.keep Kc14
    have F32 := BEbx0.keep Kc14
    have N14 := Fr.app N0 N14q
    obtain ⟨_, _, ⟨T33, L33, k33, n33⟩, -, X33, ⟨Lc33, hQ33, l33, y33, z33⟩, st33⟩ := Jvm.LawKit.callS X14 hx (y := (⟨"com/example/batchrake/batchrake/DeleteReportHasFailuresPinLaw", "fails", "(I)Z"⟩ : MethodName)) hown (mvT hZ (wd hw 196 rfl)) (mvT hZ (wd hw 197 rfl)) (mvT hZ (wd hw 53 rfl)) (mvT hZ (wd hw 198 rfl)) (by decide) (backOf (W := 0) (rm13 l Z a0 hw [] zqC T14.heap n0 Zs14 ) hZ (wd hw 198 rfl) (wd hw 53 rfl) (by decide) (by decide)) (g := (mkF m 132 #[.val (.int p0_0), .val (.int p0_1), .val (.int p0_2), .val (.int p0_3), .val (.int zqA), .val (.int zqB), .val (.int zqC), .val (.int zqM), .val (.ref ra), .val (.ref rb), .unset, .unset] [(.int zqC)])) rfl (by rw [hml]; rfl) (argsL := [(.int zqC)]) (rest := []) (lenOf pd_17 rfl) rfl (by show 2 * 0 + _ ≤ _; exact Nat.le_of_eq rfl) (hb hby at_132) (fun _ _ => ⟨rfl, rfl, (by decide : 35 + 0 ≤ _), (by decide : 801 + 0 ≤ _)⟩)
    dsimp only [Pt.U, Pt.locs, Pt.cells, Pt.slots] at X33 l33 y33 z33 st33 hQ33
    rw [l33, y33, z33] at X33
    obtain ⟨rfl, N33q, eh33⟩ := hQ33
    have N33 := Fr.app N14 N33q
    obtain ⟨_, _, ⟨T34, L34, k34, n34⟩, -, X34, ⟨Lc34, hQ34, l34, y34, z34⟩, st34⟩ := Jvm.LawKit.callS X33 hx (y := (⟨"com/example/batchrake/batchrake/DeleteReportHasFailuresPinLaw", "fails", "(I)Z"⟩ : MethodName)) hown (mvT hZ (wd hw 196 rfl)) (mvT hZ (wd hw 197 rfl)) (mvT hZ (wd hw 53 rfl)) (mvT hZ (wd hw 198 rfl)) (by decide) (backOf (W := 0) (rm13 l Z a0 hw [] zqA T14.heap n0 Zs14 ) hZ (wd hw 198 rfl) (wd hw 53 rfl) (by decide) (by decide)) (g := (mkF m 139 #[.val (.int p0_0), .val (.int p0_1), .val (.int p0_2), .val (.int p0_3), .val (.int zqA), .val (.int zqB), .val (.int zqC), .val (.int zqM), .val (.ref ra), .val (.ref rb), .val (.int (own_fails zqC)), .unset] [(.int zqA)])) rfl (by rw [hml]; rfl) (argsL := [(.int zqA)]) (rest := []) (lenOf pd_17 rfl) rfl (by show 2 * 0 + _ ≤ _; exact Nat.le_of_eq rfl) (hb hby at_139) (fun _ _ => ⟨rfl, eh33, (by decide : 35 + 0 ≤ _), (by decide : 801 + 0 ≤ _)⟩)
    dsimp only [Pt.U, Pt.locs, Pt.cells, Pt.slots] at X34 l34 y34 z34 st34 hQ34
    rw [l34, y34, z34] at X34
    obtain ⟨rfl, N34q, eh34⟩ := hQ34
    have N34 := Fr.app N33 N34q
    have k35 : ∀ t, Steps p.tables e below (T34.setTop (mkF m 142 #[.val (.int p0_0), .val (.int p0_1), .val (.int p0_2), .val (.int p0_3), .val (.int zqA), .val (.int zqB), .val (.int zqC), .val (.int zqM), .val (.ref ra), .val (.ref rb), .val (.int (own_fails zqC)), .unset] [(.int (own_fails zqA))])) t → Steps p.tables e below (s₁.setTop (mkF m 118 #[.val (.int p0_0), .val (.int p0_1), .val (.int p0_2), .val (.int p0_3), .val (.int zqA), .val (.int zqB), .val (.int zqC), .val (.int zqM), .val (.ref ra), .val (.ref rb), .unset, .unset] [])) t := by
      intro t k
      refine k1 t ?_
      refine XS.ifNo X0.here hx rfl (hb hby at_120) rfl ((if0 _ _).trans (feq hc120_2).1) ?_
      refine XS.aload X0.here hx rfl (hb hby at_123) rfl rfl ?_
      refine XS.aload X0.here hx rfl (hb hby at_125) rfl rfl ?_
      refine st14.trans ?_
      refine XS.iload X14.here hx rfl (hb hby at_130) rfl ?_
      refine st33 _ ?_
      refine XS.istore X33.here hx rfl (hb hby at_135) rfl (l' := #[.val (.int p0_0), .val (.int p0_1), .val (.int p0_2), .val (.int p0_3), .val (.int zqA), .val (.int zqB), .val (.int zqC), .val (.int zqM), .val (.ref ra), .val (.ref rb), .val (.int (own_fails zqC)), .unset]) rfl ?_
      refine XS.iload X33.here hx rfl (hb hby at_137) rfl ?_
      refine st34 _ ?_
      exact k
    by_cases hc142_36 : (own_fails zqA) = (0 : Int32)
    · skip
      obtain ⟨_, _, ⟨T37, L37, k37, n37⟩, -, X37, ⟨Lc37, hQ37, l37, y37, z37⟩, st37⟩ := Jvm.LawKit.callS X34 hx (y := (⟨"com/example/batchrake/batchrake/DeleteReportHasFailuresPinLaw", "fails", "(I)Z"⟩ : MethodName)) hown (mvT hZ (wd hw 196 rfl)) (mvT hZ (wd hw 197 rfl)) (mvT hZ (wd hw 53 rfl)) (mvT hZ (wd hw 198 rfl)) (by decide) (backOf (W := 0) (rm13 l Z a0 hw [] zqB T14.heap n0 Zs14 ) hZ (wd hw 198 rfl) (wd hw 53 rfl) (by decide) (by decide)) (g := (mkF m 147 #[.val (.int p0_0), .val (.int p0_1), .val (.int p0_2), .val (.int p0_3), .val (.int zqA), .val (.int zqB), .val (.int zqC), .val (.int zqM), .val (.ref ra), .val (.ref rb), .val (.int (own_fails zqC)), .unset] [(.int zqB)])) rfl (by rw [hml]; rfl) (argsL := [(.int zqB)]) (rest := []) (lenOf pd_17 rfl) rfl (by show 2 * 0 + _ ≤ _; exact Nat.le_of_eq rfl) (hb hby at_147) (fun _ _ => ⟨rfl, eh34, (by decide : 35 + 0 ≤ _), (by decide : 801 + 0 ≤ _)⟩)
      dsimp only [Pt.U, Pt.locs, Pt.cells, Pt.slots] at X37 l37 y37 z37 st37 hQ37
      rw [l37, y37, z37] at X37
      obtain ⟨rfl, N37q, eh37⟩ := hQ37
      have N37 := Fr.app N34 N37q
      obtain ⟨cq38, kq38, q38a, q38b, q38c⟩ := isOf hZ eh37 G14_0
      obtain ⟨_, _, ⟨T38, L38, k38, n38⟩, -, X38, ⟨Lc38, hQ38, l38, y38, z38⟩, st38⟩ := X37.virtualBack hx (y := (⟨"com/example/batchrake/batchrake/DeleteReport", "hasFailures", "()Z"⟩ : MethodName)) (z := (⟨"com/example/batchrake/batchrake/DeleteReport", "hasFailures", "()Z"⟩ : MethodName)) hown (mvT hZ (wd hw 199 rfl)) (mvT hZ (wd hw 200 rfl)) (notFace_of_selects (args := #[]) (mvT hZ (wd hw 202 rfl))) (mvT hZ (wd hw 202 rfl)) (mvT hZ (wd hw 201 rfl)) (by decide) (backOf (W := 0) (rm45 l Z a0 hw [] ra la (ks + (1 : Int32)) T14.heap n0 Zs14 G14_1 G14_2 G14_3 (own_ks _ hks).2.1) hZ (wd hw 203 rfl) (wd hw 3 rfl) (by decide) (by decide)) q38a q38c (g := (mkF m 172 #[.val (.int p0_0), .val (.int p0_1), .val (.int p0_2), .val (.int p0_3), .val (.int zqA), .val (.int zqB), .val (.int zqC), .val (.int zqM), .val (.ref ra), .val (.ref rb), .val (.int (own_fails zqC)), .val (.int (1 : Int32))] [(.ref ra)])) rfl (by rw [hml]; rfl) (Steps.refl _) (argsL := []) (rest := []) (lenOf pd_16 rfl) rfl (by show 2 * 0 + _ ≤ _; exact Nat.le_of_eq rfl) (hb hby at_172) (fun _ _ => ⟨rfl, eh37, (by decide : 35 + 0 ≤ _), (by decide : 801 + 0 ≤ _)⟩)
      dsimp only [Pt.U, Pt.locs, Pt.cells, Pt.slots] at X38 l38 y38 z38 st38 hQ38
      rw [l38, y38, z38] at X38
      obtain ⟨rfl, N38q, eh38⟩ := hQ38
      have N38 := Fr.app N37 N38q
      obtain ⟨cq39, kq39, q39a, q39b, q39c⟩ := isOf hZ eh38 F22
      obtain ⟨_, _, ⟨T39, L39, k39, n39⟩, -, X39, ⟨Lc39, hQ39, l39, y39, z39⟩, st39⟩ := X38.virtualBack hx (y := (⟨"com/example/batchrake/batchrake/DeleteReport", "hasFailures", "()Z"⟩ : MethodName)) (z := (⟨"com/example/batchrake/batchrake/DeleteReport", "hasFailures", "()Z"⟩ : MethodName)) hown (mvT hZ (wd hw 199 rfl)) (mvT hZ (wd hw 200 rfl)) (notFace_of_selects (args := #[]) (mvT hZ (wd hw 202 rfl))) (mvT hZ (wd hw 202 rfl)) (mvT hZ (wd hw 201 rfl)) (by decide) (backOf (W := 0) (rm45 l Z a0 hw [] rb lb (1 : Int32) T14.heap n0 Zs14 F23 F26 F28 (by decide : ¬ ((1 : Int32) = (0 : Int32)))) hZ (wd hw 203 rfl) (wd hw 3 rfl) (by decide) (by decide)) q39a q39c (g := (mkF m 182 #[.val (.int p0_0), .val (.int p0_1), .val (.int p0_2), .val (.int p0_3), .val (.int zqA), .val (.int zqB), .val (.int zqC), .val (.int zqM), .val (.ref ra), .val (.ref rb), .val (.int (own_fails zqC)), .val (.int (1 : Int32))] [(.ref rb)])) rfl (by rw [hml]; rfl) (Steps.refl _) (argsL := []) (rest := []) (lenOf pd_16 rfl) rfl (by show 2 * 0 + _ ≤ _; exact Nat.le_of_eq rfl) (hb hby at_182) (fun _ _ => ⟨rfl, eh38, (by decide : 35 + 0 ≤ _), (by decide : 801 + 0 ≤ _)⟩)
      dsimp only [Pt.U, Pt.locs, Pt.cells, Pt.slots] at X39 l39 y39 z39 st39 hQ39
      rw [l39, y39, z39] at X39
      obtain ⟨rfl, N39q, eh39⟩ := hQ39
      have N39 := Fr.app N38 N39q
      have k40 : ∀ t, Steps p.tables e below (T39.setTop (mkF m 195 #[.val (.int p0_0), .val (.int p0_1), .val (.int p0_2), .val (.int p0_3), .val (.int zqA), .val (.int zqB), .val (.int zqC), .val (.int zqM), .val (.ref ra), .val (.ref rb), .val (.int (own_fails zqC)), .val (.int (1 : Int32))] [(.int (1 : Int32))])) t → Steps p.tables e below (s₁.setTop (mkF m 118 #[.val (.int p0_0), .val (.int p0_1), .val (.int p0_2), .val (.int p0_3), .val (.int zqA), .val (.int zqB), .val (.int zqC), .val (.int zqM), .val (.ref ra), .val (.ref rb), .unset, .unset] [])) t := by
        intro t k
        refine k35 t ?_
        refine XS.ifNo X34.here hx rfl (hb hby at_142) rfl ((if0 _ _).trans (teq hc142_36).2) ?_
        refine XS.iload X34.here hx rfl (hb hby at_145) rfl ?_
        refine st37 _ ?_
        show Steps p.tables e below (T37.setTop (mkF m 150 #[.val (.int p0_0), .val (.int p0_1), .val (.int p0_2), .val (.int p0_3), .val (.int zqA), .val (.int zqB), .val (.int zqC), .val (.int zqM), .val (.ref ra), .val (.ref rb), .val (.int (own_fails zqC)), .unset] [(.int (own_fails zqB))])) _
        refine XS.ifYes X37.here hx rfl (pc0 := 150) (pc' := 163) rfl (hb hby at_150) rfl ((if0 _ _).trans (feq (fun q => hA ⟨hc142_36, q⟩)).2) (by decide) (by decide) ?_
        refine XS.iconst X37.here hx rfl (hb hby at_163) ?_
        refine XS.goto X37.here hx rfl (pc0 := 164) (pc' := 168) rfl (hb hby at_164) (by decide) (by decide) ?_
        refine XS.istore X37.here hx rfl (hb hby at_168) rfl (l' := #[.val (.int p0_0), .val (.int p0_1), .val (.int p0_2), .val (.int p0_3), .val (.int zqA), .val (.int zqB), .val (.int zqC), .val (.int zqM), .val (.ref ra), .val (.ref rb), .val (.int (own_fails zqC)), .val (.int (1 : Int32))]) rfl ?_
        refine XS.aload X37.here hx rfl (hb hby at_170) rfl rfl ?_
        refine st38.trans ?_
        refine XS.iload X38.here hx rfl (hb hby at_175) rfl ?_
        refine XS.icmpNo X38.here hx rfl (hb hby at_177) rfl (teq (by decide : (1 : Int32) = (1 : Int32))).2 ?_
        refine XS.aload X38.here hx rfl (hb hby at_180) rfl rfl ?_
        refine st39.trans ?_
        refine XS.iload X39.here hx rfl (hb hby at_185) rfl ?_
        refine XS.icmpNo X39.here hx rfl (hb hby at_187) rfl (teq (own_f1 _ hB)).2 ?_
        refine XS.iconst X39.here hx rfl (hb hby at_190) ?_
        refine XS.goto X39.here hx rfl (pc0 := 191) (pc' := 195) rfl (hb hby at_191) (by decide) (by decide) ?_
        exact k
      obtain ⟨fs, hr, hrun, hended, hE1, hE2, hE3, hE4⟩ := X39.leaveW hS (by rw [eh39]; exact hk) (v := some (.int (1 : Int32))) (fun h => by rw [hret] at h; cases h)
      have hCE := hCR.trans (CHv.at X39 hZ hEL hCR.1)
      refine ⟨_, _, k40 _ ?_, hrun, hended, _, _, rfl, ?_, (by show CHr Z consts_1 s.vm s.heap T39.vm T39.heap; rw [hh, eh39]; exact hCE), ⟨_, rfl⟩, hE2, hE3, hE4.mono (by decide) (by decide)⟩
      · exact retN X39 hx (t := .boolean) hret (by simp) (hb hby at_195) hr
      · skip
        exact ⟨rfl, N39⟩
    · skip
      obtain ⟨cq41, kq41, q41a, q41b, q41c⟩ := isOf hZ eh34 G14_0
      obtain ⟨_, _, ⟨T41, L41, k41, n41⟩, -, X41, ⟨Lc41, hQ41, l41, y41, z41⟩, st41⟩ := X34.virtualBack hx (y := (⟨"com/example/batchrake/batchrake/DeleteReport", "hasFailures", "()Z"⟩ : MethodName)) (z := (⟨"com/example/batchrake/batchrake/DeleteReport", "hasFailures", "()Z"⟩ : MethodName)) hown (mvT hZ (wd hw 199 rfl)) (mvT hZ (wd hw 200 rfl)) (notFace_of_selects (args := #[]) (mvT hZ (wd hw 202 rfl))) (mvT hZ (wd hw 202 rfl)) (mvT hZ (wd hw 201 rfl)) (by decide) (backOf (W := 0) (rm45 l Z a0 hw [] ra la (ks + (1 : Int32)) T14.heap n0 Zs14 G14_1 G14_2 G14_3 (own_ks _ hks).2.1) hZ (wd hw 203 rfl) (wd hw 3 rfl) (by decide) (by decide)) q41a q41c (g := (mkF m 172 #[.val (.int p0_0), .val (.int p0_1), .val (.int p0_2), .val (.int p0_3), .val (.int zqA), .val (.int zqB), .val (.int zqC), .val (.int zqM), .val (.ref ra), .val (.ref rb), .val (.int (own_fails zqC)), .val (.int (1 : Int32))] [(.ref ra)])) rfl (by rw [hml]; rfl) (Steps.refl _) (argsL := []) (rest := []) (lenOf pd_16 rfl) rfl (by show 2 * 0 + _ ≤ _; exact Nat.le_of_eq rfl) (hb hby at_172) (fun _ _ => ⟨rfl, eh34, (by decide : 35 + 0 ≤ _), (by decide : 801 + 0 ≤ _)⟩)
      dsimp only [Pt.U, Pt.locs, Pt.cells, Pt.slots] at X41 l41 y41 z41 st41 hQ41
      rw [l41, y41, z41] at X41
      obtain ⟨rfl, N41q, eh41⟩ := hQ41
      have N41 := Fr.app N34 N41q
      obtain ⟨cq42, kq42, q42a, q42b, q42c⟩ := isOf hZ eh41 F22
      obtain ⟨_, _, ⟨T42, L42, k42, n42⟩, -, X42, ⟨Lc42, hQ42, l42, y42, z42⟩, st42⟩ := X41.virtualBack hx (y := (⟨"com/example/batchrake/batchrake/DeleteReport", "hasFailures", "()Z"⟩ : MethodName)) (z := (⟨"com/example/batchrake/batchrake/DeleteReport", "hasFailures", "()Z"⟩ : MethodName)) hown (mvT hZ (wd hw 199 rfl)) (mvT hZ (wd hw 200 rfl)) (notFace_of_selects (args := #[]) (mvT hZ (wd hw 202 rfl))) (mvT hZ (wd hw 202 rfl)) (mvT hZ (wd hw 201 rfl)) (by decide) (backOf (W := 0) (rm45 l Z a0 hw [] rb lb (1 : Int32) T14.heap n0 Zs14 F23 F26 F28 (by decide : ¬ ((1 : Int32) = (0 : Int32)))) hZ (wd hw 203 rfl) (wd hw 3 rfl) (by decide) (by decide)) q42a q42c (g := (mkF m 182 #[.val (.int p0_0), .val (.int p0_1), .val (.int p0_2), .val (.int p0_3), .val (.int zqA), .val (.int zqB), .val (.int zqC), .val (.int zqM), .val (.ref ra), .val (.ref rb), .val (.int (own_fails zqC)), .val (.int (1 : Int32))] [(.ref rb)])) rfl (by rw [hml]; rfl) (Steps.refl _) (argsL := []) (rest := []) (lenOf pd_16 rfl) rfl (by show 2 * 0 + _ ≤ _; exact Nat.le_of_eq rfl) (hb hby at_182) (fun _ _ => ⟨rfl, eh41, (by decide : 35 + 0 ≤ _), (by decide : 801 + 0 ≤ _)⟩)
      dsimp only [Pt.U, Pt.locs, Pt.cells, Pt.slots] at X42 l42 y42 z42 st42 hQ42
      rw [l42, y42, z42] at X42
      obtain ⟨rfl, N42q, eh42⟩ := hQ42
      have N42 := Fr.app N41 N42q
      have k43 : ∀ t, Steps p.tables e below (T42.setTop (mkF m 195 #[.val (.int p0_0), .val (.int p0_1), .val (.int p0_2), .val (.int p0_3), .val (.int zqA), .val (.int zqB), .val (.int zqC), .val (.int zqM), .val (.ref ra), .val (.ref rb), .val (.int (own_fails zqC)), .val (.int (1 : Int32))] [(.int (1 : Int32))])) t → Steps p.tables e below (s₁.setTop (mkF m 118 #[.val (.int p0_0), .val (.int p0_1), .val (.int p0_2), .val (.int p0_3), .val (.int zqA), .val (.int zqB), .val (.int zqC), .val (.int zqM), .val (.ref ra), .val (.ref rb), .unset, .unset] [])) t := by
        intro t k
        refine k35 t ?_
        refine XS.ifYes X34.here hx rfl (pc0 := 142) (pc' := 163) rfl (hb hby at_142) rfl ((if0 _ _).trans (feq hc142_36).2) (by decide) (by decide) ?_
        refine XS.iconst X34.here hx rfl (hb hby at_163) ?_
        refine XS.goto X34.here hx rfl (pc0 := 164) (pc' := 168) rfl (hb hby at_164) (by decide) (by decide) ?_
        show Steps p.tables e below (T34.setTop (mkF m 168 #[.val (.int p0_0), .val (.int p0_1), .val (.int p0_2), .val (.int p0_3), .val (.int zqA), .val (.int zqB), .val (.int zqC), .val (.int zqM), .val (.ref ra), .val (.ref rb), .val (.int (own_fails zqC)), .unset] [(.int (1 : Int32))])) _
        refine XS.istore X34.here hx rfl (hb hby at_168) rfl (l' := #[.val (.int p0_0), .val (.int p0_1), .val (.int p0_2), .val (.int p0_3), .val (.int zqA), .val (.int zqB), .val (.int zqC), .val (.int zqM), .val (.ref ra), .val (.ref rb), .val (.int (own_fails zqC)), .val (.int (1 : Int32))]) rfl ?_
        refine XS.aload X34.here hx rfl (hb hby at_170) rfl rfl ?_
        refine st41.trans ?_
        refine XS.iload X41.here hx rfl (hb hby at_175) rfl ?_
        refine XS.icmpNo X41.here hx rfl (hb hby at_177) rfl (teq (by decide : (1 : Int32) = (1 : Int32))).2 ?_
        refine XS.aload X41.here hx rfl (hb hby at_180) rfl rfl ?_
        refine st42.trans ?_
        refine XS.iload X42.here hx rfl (hb hby at_185) rfl ?_
        refine XS.icmpNo X42.here hx rfl (hb hby at_187) rfl (teq (own_f1 _ hB)).2 ?_
        refine XS.iconst X42.here hx rfl (hb hby at_190) ?_
        refine XS.goto X42.here hx rfl (pc0 := 191) (pc' := 195) rfl (hb hby at_191) (by decide) (by decide) ?_
        exact k
      obtain ⟨fs, hr, hrun, hended, hE1, hE2, hE3, hE4⟩ := X42.leaveW hS (by rw [eh42]; exact hk) (v := some (.int (1 : Int32))) (fun h => by rw [hret] at h; cases h)
      have hCE := hCR.trans (CHv.at X42 hZ hEL hCR.1)
      refine ⟨_, _, k43 _ ?_, hrun, hended, _, _, rfl, ?_, (by show CHr Z consts_1 s.vm s.heap T42.vm T42.heap; rw [hh, eh42]; exact hCE), ⟨_, rfl⟩, hE2, hE3, hE4.mono (by decide) (by decide)⟩
      · exact retN X42 hx (t := .boolean) hret (by simp) (hb hby at_195) hr
      · skip
        exact ⟨rfl, N42⟩
theorem pd_19 : parseMethodDescriptor "(I)Ljava/lang/String;" = some ⟨[.int], some (.object "java/lang/String")⟩ := by decide +kernel
theorem pd_20 : parseMethodDescriptor "(I)Lcom/example/batchrake/batchrake/Outcome;" = some ⟨[.int], some (.object "com/example/batchrake/batchrake/Outcome")⟩ := by decide +kernel
set_option maxRecDepth 65536 in
set_option maxHeartbeats 40000000 in
theorem sgC0 {p : Program} {l : Launch} {e : Env} {s : State} {m : MethodId} {args : Array Value} {below : List Frame} {meth : Method} {c : Code} {s₁ : State} {locs : List Loc} {vm0 : Vm} {k0 : Nat} {hs0 : Heap} {Z : State} {a0 : Array Value} (hw : ∀ d ∈ tables_1, d.before a0 Z = true) (hEL : EW Z a0 consts_1) (wS : ∀ a ∈ Bundle.stringAtoms, a.before a0 Z = true) (p0_0 : Int32) (p0_1 : Int32) (p0_2 : Int32) (p0_3 : Int32) (zqA : Int32) (zqB : Int32) (zqC : Int32) (zqM : Int32) (ra : Addr) (la : Addr) (da : Int32) (na : Int32) (ma : Int32) (rb : Addr) (lb : Addr) (db : Int32) (nb : Int32) (mb : Int32) (u_DEFAULTCAPACITY_EMPTY_ELEMENTDATA : Addr) (cl_u_DEFAULTCAPACITY_EMPTY_ELEMENTDATA : Cell) (u_DELETED : Addr) (u__SwitchMap_com_example_batchrake_batchrake_Outcome : Addr) (cl_u__SwitchMap_com_example_batchrake_batchrake_Outcome : Cell) (u_CONFLICT : Addr) (u_BAD_REQUEST : Addr) (u_STORE_ERROR : Addr) (u_NOT_FOUND : Addr) (cs : Int32) (mr : Addr) (h0 : Heap) (n0 : Nat) (Z0 : n0 ≤ h0.size) (B0 : own_base Z n0 h0 u_DEFAULTCAPACITY_EMPTY_ELEMENTDATA cl_u_DEFAULTCAPACITY_EMPTY_ELEMENTDATA u_DELETED u__SwitchMap_com_example_batchrake_batchrake_Outcome cl_u__SwitchMap_com_example_batchrake_batchrake_Outcome u_CONFLICT u_BAD_REQUEST u_STORE_ERROR u_NOT_FOUND cs) (AEr : Exa Z h0 ra "com/example/batchrake/batchrake/DeleteReport") (AFf : Fld Z h0 ra "com/example/batchrake/batchrake/DeleteReport" "failures" "Ljava/util/List;" (.ref la)) (AFd : Fld Z h0 ra "com/example/batchrake/batchrake/DeleteReport" "deleted" "I" (.int da)) (AFn : Fld Z h0 ra "com/example/batchrake/batchrake/DeleteReport" "notFound" "I" (.int na)) (AEl : Exa Z h0 la "java/util/ArrayList") (AFm : Fld Z h0 la "java/util/AbstractList" "modCount" "I" (.int ma)) (AFz : Fld Z h0 la "java/util/ArrayList" "size" "I" (.int (0 : Int32))) (AFe : Fld Z h0 la "java/util/ArrayList" "elementData" "[Ljava/lang/Object;" (.ref u_DEFAULTCAPACITY_EMPTY_ELEMENTDATA)) (BEr : Exa Z h0 rb "com/example/batchrake/batchrake/DeleteReport") (BFf : Fld Z h0 rb "com/example/batchrake/batchrake/DeleteReport" "failures" "Ljava/util/List;" (.ref lb)) (BFd : Fld Z h0 rb "com/example/batchrake/batchrake/DeleteReport" "deleted" "I" (.int db)) (BFn : Fld Z h0 rb "com/example/batchrake/batchrake/DeleteReport" "notFound" "I" (.int nb)) (BEl : Exa Z h0 lb "java/util/ArrayList") (BFm : Fld Z h0 lb "java/util/AbstractList" "modCount" "I" (.int mb)) (BFz : Fld Z h0 lb "java/util/ArrayList" "size" "I" (.int (0 : Int32))) (BFe : Fld Z h0 lb "java/util/ArrayList" "elementData" "[Ljava/lang/Object;" (.ref u_DEFAULTCAPACITY_EMPTY_ELEMENTDATA)) (hcs : ¬ (cs = (0 : Int32))) (hmir : Mir Z "[Ljava/lang/Object;" mr) (ne_ra_la : ra ≠ la) (ne_ra_rb : ra ≠ rb) (ne_ra_lb : ra ≠ lb) (ne_la_rb : la ≠ rb) (ne_la_lb : la ≠ lb) (ne_rb_lb : rb ≠ lb) (hd_zqC : (zqC = (0 : Int32) ∨ zqC = (1 : Int32)) ∨ (zqC = (2 : Int32) ∨ zqC = (3 : Int32) ∨ zqC = (4 : Int32)) ∨ zqC = (5 : Int32)) (hA : own_fails zqA = (0 : Int32) ∧ own_fails zqB = (0 : Int32)) (g_ra : n0 ≤ ra) (g_la : n0 ≤ la) (g_rb : n0 ≤ rb) (g_lb : n0 ≤ lb)
    (X0 : Stand p l e room_1 (s.setVm vm0) m args below meth c s₁ locs 24 600) (hx : p.tables.exec = Jvm.exec) (hZ : Z.Warmed39 (s.setVm vm0).vm) (hby : c.code = code) (hml : c.maxLocals = 12) (hown : (s.setVm vm0).vm.findClass "com/example/batchrake/batchrake/DeleteReportHasFailuresPinLaw" = some m.cls) (hret : meth.sig.returnType = some .boolean) (hlk : meth.locks = false) (e0 : s₁.heap = h0) (N0 : Fr n0 locs) (hh : s.heap = hs0) (hS : s.Since vm0 k0) (hk : k0 ≤ h0.size) (hCR : CHr Z consts_1 s.vm hs0 vm0 h0) :
    ∃ t o, Steps p.tables e below (s₁.setTop (mkF m 98 #[.val (.int p0_0), .val (.int p0_1), .val (.int p0_2), .val (.int p0_3), .val (.int zqA), .val (.int zqB), .val (.int zqC), .val (.int zqM), .val (.ref ra), .val (.ref rb), .unset, .unset] [])) t ∧ t.status = .running ∧ Ended t below o ∧ ∃ v L, o = .returned v ∧ (v = some (.int (1 : Int32)) ∧ Fr n0 L) ∧ CHr Z consts_1 s.vm s.heap t.vm t.heap ∧ ReturnedEndW s o t L 48 1216 := by
  have pre0 : ∀ t, Steps p.tables e below (s₁.setTop (mkF m 98 #[.val (.int p0_0), .val (.int p0_1), .val (.int p0_2), .val (.int p0_3), .val (.int zqA), .val (.int zqB), .val (.int zqC), .val (.int zqM), .val (.ref ra), .val (.ref rb), .unset, .unset] [])) t → Steps p.tables e below (s₁.setTop (mkF m 98 #[.val (.int p0_0), .val (.int p0_1), .val (.int p0_2), .val (.int p0_3), .val (.int zqA), .val (.int zqB), .val (.int zqC), .val (.int zqM), .val (.ref ra), .val (.ref rb), .unset, .unset] [])) t := fun t k => k
  rcases hd_zqC with hg | hg | hg
  · skip
    obtain ⟨_, _, ⟨T1, L1, k1, n1⟩, -, X1, ⟨Lc1, hQ1, l1, y1, z1⟩, st1⟩ := Jvm.LawKit.callS X0 hx (y := (⟨"com/example/batchrake/batchrake/DeleteReportHasFailuresPinLaw", "name", "(I)Ljava/lang/String;"⟩ : MethodName)) hown (mvT hZ (wd hw 51 rfl)) (mvT hZ (wd hw 52 rfl)) (mvT hZ (wd hw 53 rfl)) (mvT hZ (wd hw 54 rfl)) (by decide) (backOf (W := 1) (rm10 l Z a0 hw [] p0_2 cs h0 n0 Z0 (own_b20 B0) hcs) hZ (wd hw 54 rfl) (wd hw 53 rfl) (by decide) (by decide)) (g := (mkF m 107 #[.val (.int p0_0), .val (.int p0_1), .val (.int p0_2), .val (.int p0_3), .val (.int zqA), .val (.int zqB), .val (.int zqC), .val (.int zqM), .val (.ref ra), .val (.ref rb), .unset, .unset] [(.int p0_2), (.ref rb)])) rfl (by rw [hml]; rfl) (argsL := [(.int p0_2)]) (rest := [(.ref rb)]) (lenOf pd_19 rfl) rfl (by show 2 * 0 + _ ≤ _; exact Nat.le_of_eq rfl) (hb hby at_107) (fun _ _ => ⟨rfl, e0, (by decide : 24 + 2 ≤ _), (by decide : 600 + 5 ≤ _)⟩)
    dsimp only [Pt.U, Pt.locs, Pt.cells, Pt.slots] at X1 l1 y1 z1 st1 hQ1
    rw [l1, y1, z1] at X1
    obtain ⟨sx_1, rfl, N1q, Kc1, ggsx_1, szsx_1⟩ := hQ1
    have ne2 : ra ≠ sx_1 := Nat.ne_of_lt (Nat.lt_of_lt_of_le AEr.lt szsx_1)
    have ne3 : la ≠ sx_1 := Nat.ne_of_lt (Nat.lt_of_lt_of_le AEl.lt szsx_1)
    have ne4 : rb ≠ sx_1 := Nat.ne_of_lt (Nat.lt_of_lt_of_le BEr.lt szsx_1)
    have ne5 : lb ≠ sx_1 := Nat.ne_of_lt (Nat.lt_of_lt_of_le BEl.lt szsx_1)
    have Zs1 : n0 ≤ T1.heap.size := Nat.le_trans Z0 Kc1.1
    have hCR := hCR.trans (CHr.keep Kc1 sf0 hCR.1)
    have hk := Nat.le_trans hk Kc1.1
    have F6 := own_bkeep B0 Kc1 all0 all0
    have F7 := AEr.keep Kc1
    have F8 := AFf.keep Kc1 nin0
    have F9 := AFd.keep Kc1 nin0
    have F10 := AFn.keep Kc1 nin0
    have F11 := AEl.keep Kc1
    have F12 := AFm.keep Kc1 nin0
    have F13 := AFz.keep Kc1 nin0
    have F14 := AFe.keep Kc1 nin0
    have F15 := BEr.keep Kc1
    have F16 := BFf.keep Kc1 nin0
    have F17 := BFd.keep Kc1 nin0
    have F18 := BFn.keep Kc1 nin0
    have F19 := BEl.keep Kc1
    have F20 := BFm.keep Kc1 nin0
    have F21 := BFz.keep Kc1 nin0
    have F22 := BFe.keep Kc1 nin0
    have N1 := Fr.app N0 N1q
    obtain ⟨_, _, ⟨T23, L23, k23, n23⟩, -, X23, ⟨Lc23, hQ23, l23, y23, z23⟩, st23⟩ := Jvm.LawKit.callS X1 hx (y := (⟨"com/example/batchrake/batchrake/DeleteReportHasFailuresPinLaw", "pick", "(I)Lcom/example/batchrake/batchrake/Outcome;"⟩ : MethodName)) hown (mvT hZ (wd hw 74 rfl)) (mvT hZ (wd hw 75 rfl)) (mvT hZ (wd hw 53 rfl)) (mvT hZ (wd hw 76 rfl)) (by decide) (backOf (W := 2) (rm11 l Z a0 hw [] zqC u_DELETED u_NOT_FOUND T1.heap n0 Zs1 (own_b2 F6) (own_b3 F6) (own_b5 F6) (own_b15 F6) (own_b16 F6) (own_b17 F6) hg) hZ (wd hw 76 rfl) (wd hw 53 rfl) (by decide) (by decide)) (g := (mkF m 112 #[.val (.int p0_0), .val (.int p0_1), .val (.int p0_2), .val (.int p0_3), .val (.int zqA), .val (.int zqB), .val (.int zqC), .val (.int zqM), .val (.ref ra), .val (.ref rb), .unset, .unset] [(.int zqC), (.ref sx_1), (.ref rb)])) rfl (by rw [hml]; rfl) (argsL := [(.int zqC)]) (rest := [(.ref sx_1), (.ref rb)]) (lenOf pd_20 rfl) rfl (by show 2 * 0 + _ ≤ _; exact Nat.le_of_eq rfl) (hb hby at_112) (fun _ _ => ⟨rfl, rfl, (by decide : 26 + 0 ≤ _), (by decide : 605 + 0 ≤ _)⟩)
    dsimp only [Pt.U, Pt.locs, Pt.cells, Pt.slots] at X23 l23 y23 z23 st23 hQ23
    rw [l23, y23, z23] at X23
    obtain ⟨ux_23, rfl, N23q, Kc23, G23_0, G23_1⟩ := hQ23
    have Zs23 : n0 ≤ T23.heap.size := Nat.le_trans Zs1 Kc23.1
    have hCR := hCR.trans (CHr.keep Kc23 sf0 hCR.1)
    have hk := Nat.le_trans hk Kc23.1
    have F24 := own_bkeep F6 Kc23 all0 all0
    have F25 := F7.keep Kc23
    have F26 := F8.keep Kc23 nin0
    have F27 := F9.keep Kc23 nin0
    have F28 := F10.keep Kc23 nin0
    have F29 := F11.keep Kc23
    have F30 := F12.keep Kc23 nin0
    have F31 := F13.keep Kc23 nin0
    have F32 := F14.keep Kc23 nin0
    have F33 := F15.keep Kc23
    have F34 := F16.keep Kc23 nin0
    have F35 := F17.keep Kc23 nin0
    have F36 := F18.keep Kc23 nin0
    have F37 := F19.keep Kc23
    have F38 := F20.keep Kc23 nin0
    have F39 := F21.keep Kc23 nin0
    have F40 := F22.keep Kc23 nin0
    have N23 := Fr.app N1 N23q
    obtain ⟨cq41, kq41, q41a, q41b, q41c⟩ := isOf hZ rfl F33
    obtain ⟨_, _, ⟨T41, L41, k41, n41⟩, -, X41, ⟨Lc41, hQ41, l41, y41, z41⟩, st41⟩ := X23.virtualBack hx (y := (⟨"com/example/batchrake/batchrake/DeleteReport", "add", "(Ljava/lang/String;Lcom/example/batchrake/batchrake/Outcome;)V"⟩ : MethodName)) (z := (⟨"com/example/batchrake/batchrake/DeleteReport", "add", "(Ljava/lang/String;Lcom/example/batchrake/batchrake/Outcome;)V"⟩ : MethodName)) hown (mvT hZ (wd hw 80 rfl)) (mvT hZ (wd hw 81 rfl)) (notFace_of_selects (args := #[]) (mvT hZ (wd hw 83 rfl))) (mvT hZ (wd hw 83 rfl)) (mvT hZ (wd hw 82 rfl)) (by decide) (backOf (W := 0) (rm39 l Z a0 hw [] rb sx_1 ux_23 u__SwitchMap_com_example_batchrake_batchrake_Outcome cl_u__SwitchMap_com_example_batchrake_batchrake_Outcome db nb lb zqC T23.heap n0 Zs23 (own_b4 F24) (own_b19 F24) F33 F34 F35 F36 G23_0 G23_1 hg g_rb) hZ (wd hw 84 rfl) (wd hw 3 rfl) (by decide) (by decide)) q41a q41c (g := (mkF m 115 #[.val (.int p0_0), .val (.int p0_1), .val (.int p0_2), .val (.int p0_3), .val (.int zqA), .val (.int zqB), .val (.int zqC), .val (.int zqM), .val (.ref ra), .val (.ref rb), .unset, .unset] [(.ref ux_23), (.ref sx_1), (.ref rb)])) rfl (by rw [hml]; rfl) (Steps.refl _) (argsL := [(.ref sx_1), (.ref ux_23)]) (rest := []) (lenOf pd_14 rfl) rfl (by show 2 * 0 + _ ≤ _; exact Nat.le_of_eq rfl) (hb hby at_115) (fun _ _ => ⟨rfl, rfl, (by decide : 26 + 0 ≤ _), (by decide : 605 + 0 ≤ _)⟩)
    dsimp only [Pt.U, Pt.locs, Pt.cells, Pt.slots] at X41 l41 y41 z41 st41 hQ41
    rw [l41, y41, z41] at X41
    obtain ⟨d2_41, n2_41, rfl, N41q, Kc41, G41_0, G41_1, G41_2, G41_3⟩ := hQ41
    have Zs41 : n0 ≤ T41.heap.size := Nat.le_trans Zs23 Kc41.1
    have hCR := hCR.trans (CHr.keep Kc41 (sfS own_safe0 sf0) hCR.1)
    have hk := Nat.le_trans hk Kc41.1
    have F42 := own_bkeep F24 Kc41 (allS g_rb all0) (allS (own_nsE F33) all0)
    have F43 := F25.keep Kc41
    have F44 := F26.keep Kc41 (ninS ne_ra_rb nin0)
    have F45 := F27.keep Kc41 (ninS ne_ra_rb nin0)
    have F46 := F28.keep Kc41 (ninS ne_ra_rb nin0)
    have F47 := F29.keep Kc41
    have F48 := F30.keep Kc41 (ninS ne_la_rb nin0)
    have F49 := F31.keep Kc41 (ninS ne_la_rb nin0)
    have F50 := F32.keep Kc41 (ninS ne_la_rb nin0)
    have F51 := F37.keep Kc41
    have F52 := F38.keep Kc41 (ninS (Ne.symm ne_rb_lb) nin0)
    have F53 := F39.keep Kc41 (ninS (Ne.symm ne_rb_lb) nin0)
    have F54 := F40.keep Kc41 (ninS (Ne.symm ne_rb_lb) nin0)
    have F55 := G23_0.keep Kc41
    have N41 := Fr.app N23 N41q
    have k57 : ∀ t, Steps p.tables e below (T41.setTop (mkF m 118 #[.val (.int p0_0), .val (.int p0_1), .val (.int p0_2), .val (.int p0_3), .val (.int zqA), .val (.int zqB), .val (.int zqC), .val (.int zqM), .val (.ref ra), .val (.ref rb), .unset, .unset] [])) t → Steps p.tables e below (s₁.setTop (mkF m 98 #[.val (.int p0_0), .val (.int p0_1), .val (.int p0_2), .val (.int p0_3), .val (.int zqA), .val (.int zqB), .val (.int zqC), .val (.int zqM), .val (.ref ra), .val (.ref rb), .unset, .unset] [])) t := by
      intro t k
      refine pre0 t ?_
      refine XS.iload X0.here hx rfl (hb hby at_98) rfl ?_
      refine XS.iconst X0.here hx rfl (hb hby at_100) ?_
      refine XS.icmpNo X0.here hx rfl (hb hby at_101) rfl (tlt (own_gS _ hg).1).2.1 ?_
      refine XS.aload X0.here hx rfl (hb hby at_104) rfl rfl ?_
      refine XS.iloadN X0.here hx rfl (hb hby at_106) rfl ?_
      refine st1 _ ?_
      refine XS.iload X1.here hx rfl (hb hby at_110) rfl ?_
      refine st23 _ ?_
      refine st41.trans ?_
      exact k
    obtain ⟨t_, o_, ss_, s2_, s3_, v_, L_, hv_, hq_, hf_⟩ := sgD00 hw hEL wS p0_0 p0_1 p0_2 p0_3 zqA zqB zqC zqM ra la da na ma rb lb d2_41 n2_41 mb u_DEFAULTCAPACITY_EMPTY_ELEMENTDATA cl_u_DEFAULTCAPACITY_EMPTY_ELEMENTDATA u_DELETED u__SwitchMap_com_example_batchrake_batchrake_Outcome cl_u__SwitchMap_com_example_batchrake_batchrake_Outcome u_CONFLICT u_BAD_REQUEST u_STORE_ERROR u_NOT_FOUND cs mr T41.heap n0 Zs41 F42 F43 F44 F45 F46 F47 F48 F49 F50 G41_0 G41_1 G41_2 G41_3 F51 F52 F53 F54 hcs hmir ne_ra_la ne_ra_rb ne_ra_lb ne_la_rb ne_la_lb ne_rb_lb hA (own_gS _ hg).2 g_ra g_la g_rb g_lb (X41.more (by decide) (by decide)) hx hZ hby hml hown hret (by first | assumption | exact BodyLoose.notSynchronized (by assumption) | exact Body.notSynchronized (by assumption)) rfl N41 hh hS hk hCR
    exact ⟨t_, o_, k57 _ ss_, s2_, s3_, v_, L_, hv_, hq_, hf_⟩
  · skip
    obtain ⟨_, _, ⟨T58, L58, k58, n58⟩, -, X58, ⟨Lc58, hQ58, l58, y58, z58⟩, st58⟩ := Jvm.LawKit.callS X0 hx (y := (⟨"com/example/batchrake/batchrake/DeleteReportHasFailuresPinLaw", "name", "(I)Ljava/lang/String;"⟩ : MethodName)) hown (mvT hZ (wd hw 51 rfl)) (mvT hZ (wd hw 52 rfl)) (mvT hZ (wd hw 53 rfl)) (mvT hZ (wd hw 54 rfl)) (by decide) (backOf (W := 1) (rm10 l Z a0 hw [] p0_2 cs h0 n0 Z0 (own_b20 B0) hcs) hZ (wd hw 54 rfl) (wd hw 53 rfl) (by decide) (by decide)) (g := (mkF m 107 #[.val (.int p0_0), .val (.int p0_1), .val (.int p0_2), .val (.int p0_3), .val (.int zqA), .val (.int zqB), .val (.int zqC), .val (.int zqM), .val (.ref ra), .val (.ref rb), .unset, .unset] [(.int p0_2), (.ref rb)])) rfl (by rw [hml]; rfl) (argsL := [(.int p0_2)]) (rest := [(.ref rb)]) (lenOf pd_19 rfl) rfl (by show 2 * 0 + _ ≤ _; exact Nat.le_of_eq rfl) (hb hby at_107) (fun _ _ => ⟨rfl, e0, (by decide : 24 + 2 ≤ _), (by decide : 600 + 5 ≤ _)⟩)
    dsimp only [Pt.U, Pt.locs, Pt.cells, Pt.slots] at X58 l58 y58 z58 st58 hQ58
    rw [l58, y58, z58] at X58
    obtain ⟨sx_58, rfl, N58q, Kc58, ggsx_58, szsx_58⟩ := hQ58
    have ne59 : ra ≠ sx_58 := Nat.ne_of_lt (Nat.lt_of_lt_of_le AEr.lt szsx_58)
    have ne60 : la ≠ sx_58 := Nat.ne_of_lt (Nat.lt_of_lt_of_le AEl.lt szsx_58)
    have ne61 : rb ≠ sx_58 := Nat.ne_of_lt (Nat.lt_of_lt_of_le BEr.lt szsx_58)
    have ne62 : lb ≠ sx_58 := Nat.ne_of_lt (Nat.lt_of_lt_of_le BEl.lt szsx_58)
    have Zs58 : n0 ≤ T58.heap.size := Nat.le_trans Z0 Kc58.1
    have hCR := hCR.trans (CHr.keep Kc58 sf0 hCR.1)
    have hk := Nat.le_trans hk Kc58.1
    have F63 := own_bkeep B0 Kc58 all0 all0
    have F64 := AEr.keep Kc58
    have F65 := AFf.keep Kc58 nin0
    have F66 := AFd.keep Kc58 nin0
    have F67 := AFn.keep Kc58 nin0
    have F68 := AEl.keep Kc58
    have F69 := AFm.keep Kc58 nin0
    have F70 := AFz.keep Kc58 nin0
    have F71 := AFe.keep Kc58 nin0
    have F72 := BEr.keep Kc58
    have F73 := BFf.keep Kc58 nin0
    have F74 := BFd.keep Kc58 nin0
    have F75 := BFn.keep Kc58 nin0
    have F76 := BEl.keep Kc58
    have F77 := BFm.keep Kc58 nin0
    have F78 := BFz.keep Kc58 nin0
    have F79 := BFe.keep Kc58 nin0
    have N58 := Fr.app N0 N58q
    obtain ⟨_, _, ⟨T80, L80, k80, n80⟩, -, X80, ⟨Lc80, hQ80, l80, y80, z80⟩, st80⟩ := Jvm.LawKit.callS X58 hx (y := (⟨"com/example/batchrake/batchrake/DeleteReportHasFailuresPinLaw", "pick", "(I)Lcom/example/batchrake/batchrake/Outcome;"⟩ : MethodName)) hown (mvT hZ (wd hw 74 rfl)) (mvT hZ (wd hw 75 rfl)) (mvT hZ (wd hw 53 rfl)) (mvT hZ (wd hw 76 rfl)) (by decide) (backOf (W := 2) (rm12 l Z a0 hw [] zqC u_BAD_REQUEST u_CONFLICT u_STORE_ERROR T58.heap n0 Zs58 (own_b9 F63) (own_b10 F63) (own_b11 F63) (own_b6 F63) (own_b7 F63) (own_b8 F63) (own_b12 F63) (own_b13 F63) (own_b14 F63) hg) hZ (wd hw 76 rfl) (wd hw 53 rfl) (by decide) (by decide)) (g := (mkF m 112 #[.val (.int p0_0), .val (.int p0_1), .val (.int p0_2), .val (.int p0_3), .val (.int zqA), .val (.int zqB), .val (.int zqC), .val (.int zqM), .val (.ref ra), .val (.ref rb), .unset, .unset] [(.int zqC), (.ref sx_58), (.ref rb)])) rfl (by rw [hml]; rfl) (argsL := [(.int zqC)]) (rest := [(.ref sx_58), (.ref rb)]) (lenOf pd_20 rfl) rfl (by show 2 * 0 + _ ≤ _; exact Nat.le_of_eq rfl) (hb hby at_112) (fun _ _ => ⟨rfl, rfl, (by decide : 26 + 0 ≤ _), (by decide : 605 + 0 ≤ _)⟩)
    dsimp only [Pt.U, Pt.locs, Pt.cells, Pt.slots] at X80 l80 y80 z80 st80 hQ80
    rw [l80, y80, z80] at X80
    obtain ⟨ux_80, rfl, N80q, Kc80, G80_0, G80_1⟩ := hQ80
    have Zs80 : n0 ≤ T80.heap.size := Nat.le_trans Zs58 Kc80.1
    have hCR := hCR.trans (CHr.keep Kc80 sf0 hCR.1)
    have hk := Nat.le_trans hk Kc80.1
    have F81 := own_bkeep F63 Kc80 all0 all0
    have F82 := F64.keep Kc80
    have F83 := F65.keep Kc80 nin0
    have F84 := F66.keep Kc80 nin0
    have F85 := F67.keep Kc80 nin0
    have F86 := F68.keep Kc80
    have F87 := F69.keep Kc80 nin0
    have F88 := F70.keep Kc80 nin0
    have F89 := F71.keep Kc80 nin0
    have F90 := F72.keep Kc80
    have F91 := F73.keep Kc80 nin0
    have F92 := F74.keep Kc80 nin0
    have F93 := F75.keep Kc80 nin0
    have F94 := F76.keep Kc80
    have F95 := F77.keep Kc80 nin0
    have F96 := F78.keep Kc80 nin0
    have F97 := F79.keep Kc80 nin0
    have N80 := Fr.app N58 N80q
    obtain ⟨cq98, kq98, q98a, q98b, q98c⟩ := isOf hZ rfl F90
    obtain ⟨_, _, ⟨T98, L98, k98, n98⟩, -, X98, ⟨Lc98, hQ98, l98, y98, z98⟩, st98⟩ := X80.virtualBack hx (y := (⟨"com/example/batchrake/batchrake/DeleteReport", "add", "(Ljava/lang/String;Lcom/example/batchrake/batchrake/Outcome;)V"⟩ : MethodName)) (z := (⟨"com/example/batchrake/batchrake/DeleteReport", "add", "(Ljava/lang/String;Lcom/example/batchrake/batchrake/Outcome;)V"⟩ : MethodName)) hown (mvT hZ (wd hw 80 rfl)) (mvT hZ (wd hw 81 rfl)) (notFace_of_selects (args := #[]) (mvT hZ (wd hw 83 rfl))) (mvT hZ (wd hw 83 rfl)) (mvT hZ (wd hw 82 rfl)) (by decide) (backOf (W := 0) (rm40 l Z a0 hw [] rb sx_58 ux_80 u__SwitchMap_com_example_batchrake_batchrake_Outcome cl_u__SwitchMap_com_example_batchrake_batchrake_Outcome lb zqC mb u_DEFAULTCAPACITY_EMPTY_ELEMENTDATA cl_u_DEFAULTCAPACITY_EMPTY_ELEMENTDATA T80.heap n0 Zs80 (own_b4 F81) (own_b19 F81) F90 F91 G80_0 G80_1 F94 F95 F96 F97 (own_b0 F81) (own_b18 F81) hg (Nat.ne_of_lt (Nat.lt_of_lt_of_le (own_b21 F81) g_lb)) g_lb) hZ (wd hw 84 rfl) (wd hw 3 rfl) (by decide) (by decide)) q98a q98c (g := (mkF m 115 #[.val (.int p0_0), .val (.int p0_1), .val (.int p0_2), .val (.int p0_3), .val (.int zqA), .val (.int zqB), .val (.int zqC), .val (.int zqM), .val (.ref ra), .val (.ref rb), .unset, .unset] [(.ref ux_80), (.ref sx_58), (.ref rb)])) rfl (by rw [hml]; rfl) (Steps.refl _) (argsL := [(.ref sx_58), (.ref ux_80)]) (rest := []) (lenOf pd_14 rfl) rfl (by show 2 * 0 + _ ≤ _; exact Nat.le_of_eq rfl) (hb hby at_115) (fun _ _ => ⟨rfl, rfl, (by decide : 26 + 2 ≤ _), (by decide : 605 + 12 ≤ _)⟩)
    dsimp only [Pt.U, Pt.locs, Pt.cells, Pt.slots] at X98 l98 y98 z98 st98 hQ98
    rw [l98, y98, z98] at X98
    obtain ⟨fx_98, en_98, kn_98, rfl, N98q, Kc98, ggfx_98, szfx_98, ggen_98, szen_98, G98_0, G98_1, G98_2, G98_3, G98_4, G98_5, G98_6, P98_0⟩ := hQ98
    have ne99 : ra ≠ fx_98 := Nat.ne_of_lt (Nat.lt_of_lt_of_le F82.lt szfx_98)
    have ne100 : la ≠ fx_98 := Nat.ne_of_lt (Nat.lt_of_lt_of_le F86.lt szfx_98)
    have ne101 : rb ≠ fx_98 := Nat.ne_of_lt (Nat.lt_of_lt_of_le F90.lt szfx_98)
    have ne102 : lb ≠ fx_98 := Nat.ne_of_lt (Nat.lt_of_lt_of_le F94.lt szfx_98)
    have ne103 : ux_80 ≠ fx_98 := Nat.ne_of_lt (Nat.lt_of_lt_of_le G80_0.lt szfx_98)
    have ne104 : ra ≠ en_98 := Nat.ne_of_lt (Nat.lt_of_lt_of_le F82.lt szen_98)
    have ne105 : la ≠ en_98 := Nat.ne_of_lt (Nat.lt_of_lt_of_le F86.lt szen_98)
    have ne106 : rb ≠ en_98 := Nat.ne_of_lt (Nat.lt_of_lt_of_le F90.lt szen_98)
    have ne107 : lb ≠ en_98 := Nat.ne_of_lt (Nat.lt_of_lt_of_le F94.lt szen_98)
    have ne108 : ux_80 ≠ en_98 := Nat.ne_of_lt (Nat.lt_of_lt_of_le G80_0.lt szen_98)
    have Zs98 : n0 ≤ T98.heap.size := Nat.le_trans Zs80 Kc98.1
    have hCR := hCR.trans (CHr.keep Kc98 (sfS own_safe0 sf0) hCR.1)
    have hk := Nat.le_trans hk Kc98.1
    have F109 := own_bkeep F81 Kc98 (allS g_lb all0) (allS (own_nsE F94) all0)
    have F110 := F82.keep Kc98
    have F111 := F83.keep Kc98 (ninS ne_ra_lb nin0)
    have F112 := F84.keep Kc98 (ninS ne_ra_lb nin0)
    have F113 := F85.keep Kc98 (ninS ne_ra_lb nin0)
    have F114 := F86.keep Kc98
    have F115 := F87.keep Kc98 (ninS ne_la_lb nin0)
    have F116 := F88.keep Kc98 (ninS ne_la_lb nin0)
    have F117 := F89.keep Kc98 (ninS ne_la_lb nin0)
    have F118 := F90.keep Kc98
    have F119 := F91.keep Kc98 (ninS ne_rb_lb nin0)
    have F120 := F92.keep Kc98 (ninS ne_rb_lb nin0)
    have F121 := F93.keep Kc98 (ninS ne_rb_lb nin0)
    have F122 := G80_0.keep Kc98
    have N98 := Fr.app N80 N98q
    have k124 : ∀ t, Steps p.tables e below (T98.setTop (mkF m 118 #[.val (.int p0_0), .val (.int p0_1), .val (.int p0_2), .val (.int p0_3), .val (.int zqA), .val (.int zqB), .val (.int zqC), .val (.int zqM), .val (.ref ra), .val (.ref rb), .unset, .unset] [])) t → Steps p.tables e below (s₁.setTop (mkF m 98 #[.val (.int p0_0), .val (.int p0_1), .val (.int p0_2), .val (.int p0_3), .val (.int zqA), .val (.int zqB), .val (.int zqC), .val (.int zqM), .val (.ref ra), .val (.ref rb), .unset, .unset] [])) t := by
      intro t k
      refine pre0 t ?_
      refine XS.iload X0.here hx rfl (hb hby at_98) rfl ?_
      refine XS.iconst X0.here hx rfl (hb hby at_100) ?_
      refine XS.icmpNo X0.here hx rfl (hb hby at_101) rfl (tlt (own_gF _ hg).1).2.1 ?_
      refine XS.aload X0.here hx rfl (hb hby at_104) rfl rfl ?_
      refine XS.iloadN X0.here hx rfl (hb hby at_106) rfl ?_
      refine st58 _ ?_
      refine XS.iload X58.here hx rfl (hb hby at_110) rfl ?_
      refine st80 _ ?_
      refine st98.trans ?_
      exact k
    obtain ⟨t_, o_, ss_, s2_, s3_, v_, L_, hv_, hq_, hf_⟩ := sgD01 hw hEL wS p0_0 p0_1 p0_2 p0_3 zqA zqB zqC zqM ra la da na ma rb lb db nb (mb + (1 : Int32)) en_98 kn_98 fx_98 u_DEFAULTCAPACITY_EMPTY_ELEMENTDATA cl_u_DEFAULTCAPACITY_EMPTY_ELEMENTDATA u_DELETED u__SwitchMap_com_example_batchrake_batchrake_Outcome cl_u__SwitchMap_com_example_batchrake_batchrake_Outcome u_CONFLICT u_BAD_REQUEST u_STORE_ERROR u_NOT_FOUND cs mr T98.heap n0 Zs98 F109 F110 F111 F112 F113 F114 F115 F116 F117 F118 F119 F120 F121 G98_0 G98_1 G98_2 G98_3 G98_4 G98_5 G98_6 hcs hmir ne_ra_la ne_ra_rb ne_ra_lb ne104 ne_la_rb ne_la_lb ne105 ne_rb_lb ne106 ne107 P98_0 hA (own_gF _ hg).2 g_ra g_la g_rb g_lb ggen_98 (X98.more (by decide) (by decide)) hx hZ hby hml hown hret (by first | assumption | exact BodyLoose.notSynchronized (by assumption) | exact Body.notSynchronized (by assumption)) rfl N98 hh hS hk hCR
    exact ⟨t_, o_, k124 _ ss_, s2_, s3_, v_, L_, hv_, hq_, hf_⟩
  · skip
    have k125 : ∀ t, Steps p.tables e below (s₁.setTop (mkF m 118 #[.val (.int p0_0), .val (.int p0_1), .val (.int p0_2), .val (.int p0_3), .val (.int zqA), .val (.int zqB), .val (.int zqC), .val (.int zqM), .val (.ref ra), .val (.ref rb), .unset, .unset] [])) t → Steps p.tables e below (s₁.setTop (mkF m 98 #[.val (.int p0_0), .val (.int p0_1), .val (.int p0_2), .val (.int p0_3), .val (.int zqA), .val (.int zqB), .val (.int zqC), .val (.int zqM), .val (.ref ra), .val (.ref rb), .unset, .unset] [])) t := by
      intro t k
      refine pre0 t ?_
      refine XS.iload X0.here hx rfl (hb hby at_98) rfl ?_
      refine XS.iconst X0.here hx rfl (hb hby at_100) ?_
      refine XS.icmpYes X0.here hx rfl (pc0 := 101) (pc' := 118) rfl (hb hby at_101) rfl (flt (own_g5 _ hg).1).2.1 (by decide) (by decide) ?_
      exact k
    obtain ⟨t_, o_, ss_, s2_, s3_, v_, L_, hv_, hq_, hf_⟩ := sgD00 hw hEL wS p0_0 p0_1 p0_2 p0_3 zqA zqB zqC zqM ra la da na ma rb lb db nb mb u_DEFAULTCAPACITY_EMPTY_ELEMENTDATA cl_u_DEFAULTCAPACITY_EMPTY_ELEMENTDATA u_DELETED u__SwitchMap_com_example_batchrake_batchrake_Outcome cl_u__SwitchMap_com_example_batchrake_batchrake_Outcome u_CONFLICT u_BAD_REQUEST u_STORE_ERROR u_NOT_FOUND cs mr h0 n0 Z0 B0 AEr AFf AFd AFn AEl AFm AFz AFe BEr BFf BFd BFn BEl BFm BFz BFe hcs hmir ne_ra_la ne_ra_rb ne_ra_lb ne_la_rb ne_la_lb ne_rb_lb hA (own_g5 _ hg).2 g_ra g_la g_rb g_lb (X0.more (by decide) (by decide)) hx hZ hby hml hown hret (by first | assumption | exact BodyLoose.notSynchronized (by assumption) | exact Body.notSynchronized (by assumption)) e0 N0 hh hS hk hCR
    exact ⟨t_, o_, k125 _ ss_, s2_, s3_, v_, L_, hv_, hq_, hf_⟩
set_option maxRecDepth 65536 in
set_option maxHeartbeats 40000000 in
theorem sgCP {p : Program} {l : Launch} {e : Env} {s : State} {m : MethodId} {args : Array Value} {below : List Frame} {meth : Method} {c : Code} {s₁ : State} {locs : List Loc} {vm0 : Vm} {k0 : Nat} {hs0 : Heap} {Z : State} {a0 : Array Value} (hw : ∀ d ∈ tables_1, d.before a0 Z = true) (hEL : EW Z a0 consts_1) (wS : ∀ a ∈ Bundle.stringAtoms, a.before a0 Z = true) (p0_0 : Int32) (p0_1 : Int32) (p0_2 : Int32) (p0_3 : Int32) (zqA : Int32) (zqB : Int32) (zqC : Int32) (zqM : Int32) (ra : Addr) (la : Addr) (da : Int32) (na : Int32) (ma : Int32) (ea : Addr) (ka : ClassId) (ks : Int32) (va : List Value) (rb : Addr) (lb : Addr) (db : Int32) (nb : Int32) (mb : Int32) (u_DEFAULTCAPACITY_EMPTY_ELEMENTDATA : Addr) (cl_u_DEFAULTCAPACITY_EMPTY_ELEMENTDATA : Cell) (u_DELETED : Addr) (u__SwitchMap_com_example_batchrake_batchrake_Outcome : Addr) (cl_u__SwitchMap_com_example_batchrake_batchrake_Outcome : Cell) (u_CONFLICT : Addr) (u_BAD_REQUEST : Addr) (u_STORE_ERROR : Addr) (u_NOT_FOUND : Addr) (cs : Int32) (mr : Addr) (h0 : Heap) (n0 : Nat) (Z0 : n0 ≤ h0.size) (B0 : own_base Z n0 h0 u_DEFAULTCAPACITY_EMPTY_ELEMENTDATA cl_u_DEFAULTCAPACITY_EMPTY_ELEMENTDATA u_DELETED u__SwitchMap_com_example_batchrake_batchrake_Outcome cl_u__SwitchMap_com_example_batchrake_batchrake_Outcome u_CONFLICT u_BAD_REQUEST u_STORE_ERROR u_NOT_FOUND cs) (AEr : Exa Z h0 ra "com/example/batchrake/batchrake/DeleteReport") (AFf : Fld Z h0 ra "com/example/batchrake/batchrake/DeleteReport" "failures" "Ljava/util/List;" (.ref la)) (AFd : Fld Z h0 ra "com/example/batchrake/batchrake/DeleteReport" "deleted" "I" (.int da)) (AFn : Fld Z h0 ra "com/example/batchrake/batchrake/DeleteReport" "notFound" "I" (.int na)) (AEl : Exa Z h0 la "java/util/ArrayList") (AFm : Fld Z h0 la "java/util/AbstractList" "modCount" "I" (.int ma)) (AFz : Fld Z h0 la "java/util/ArrayList" "size" "I" (.int ks)) (AFe : Fld Z h0 la "java/util/ArrayList" "elementData" "[Ljava/lang/Object;" (.ref ea)) (AVe : Arv Z h0 ea ka (.object "java/lang/Object") (10 : Int32) va .null) (AEd : Exa Z h0 ea "[Ljava/lang/Object;") (BEr : Exa Z h0 rb "com/example/batchrake/batchrake/DeleteReport") (BFf : Fld Z h0 rb "com/example/batchrake/batchrake/DeleteReport" "failures" "Ljava/util/List;" (.ref lb)) (BFd : Fld Z h0 rb "com/example/batchrake/batchrake/DeleteReport" "deleted" "I" (.int db)) (BFn : Fld Z h0 rb "com/example/batchrake/batchrake/DeleteReport" "notFound" "I" (.int nb)) (BEl : Exa Z h0 lb "java/util/ArrayList") (BFm : Fld Z h0 lb "java/util/AbstractList" "modCount" "I" (.int mb)) (BFz : Fld Z h0 lb "java/util/ArrayList" "size" "I" (.int (0 : Int32))) (BFe : Fld Z h0 lb "java/util/ArrayList" "elementData" "[Ljava/lang/Object;" (.ref u_DEFAULTCAPACITY_EMPTY_ELEMENTDATA)) (hcs : ¬ (cs = (0 : Int32))) (hmir : Mir Z "[Ljava/lang/Object;" mr) (ne_ra_la : ra ≠ la) (ne_ra_ea : ra ≠ ea) (ne_ra_rb : ra ≠ rb) (ne_ra_lb : ra ≠ lb) (ne_la_ea : la ≠ ea) (ne_la_rb : la ≠ rb) (ne_la_lb : la ≠ lb) (ne_ea_rb : ea ≠ rb) (ne_ea_lb : ea ≠ lb) (ne_rb_lb : rb ≠ lb) (hovA : Ovr Z ka "java/lang/Object") (hks : ks = (1 : Int32) ∨ ks = (2 : Int32)) (hva : va.length = 10) (hd_zqC : (zqC = (0 : Int32) ∨ zqC = (1 : Int32)) ∨ (zqC = (2 : Int32) ∨ zqC = (3 : Int32) ∨ zqC = (4 : Int32)) ∨ zqC = (5 : Int32)) (hA : ¬ (own_fails zqA = (0 : Int32) ∧ own_fails zqB = (0 : Int32))) (g_ra : n0 ≤ ra) (g_la : n0 ≤ la) (g_ea : n0 ≤ ea) (g_rb : n0 ≤ rb) (g_lb : n0 ≤ lb)
    (X0 : Stand p l e room_1 (s.setVm vm0) m args below meth c s₁ locs 24 600) (hx : p.tables.exec = Jvm.exec) (hZ : Z.Warmed39 (s.setVm vm0).vm) (hby : c.code = code) (hml : c.maxLocals = 12) (hown : (s.setVm vm0).vm.findClass "com/example/batchrake/batchrake/DeleteReportHasFailuresPinLaw" = some m.cls) (hret : meth.sig.returnType = some .boolean) (hlk : meth.locks = false) (e0 : s₁.heap = h0) (N0 : Fr n0 locs) (hh : s.heap = hs0) (hS : s.Since vm0 k0) (hk : k0 ≤ h0.size) (hCR : CHr Z consts_1 s.vm hs0 vm0 h0) :
    ∃ t o, Steps p.tables e below (s₁.setTop (mkF m 98 #[.val (.int p0_0), .val (.int p0_1), .val (.int p0_2), .val (.int p0_3), .val (.int zqA), .val (.int zqB), .val (.int zqC), .val (.int zqM), .val (.ref ra), .val (.ref rb), .unset, .unset] [])) t ∧ t.status = .running ∧ Ended t below o ∧ ∃ v L, o = .returned v ∧ (v = some (.int (1 : Int32)) ∧ Fr n0 L) ∧ CHr Z consts_1 s.vm s.heap t.vm t.heap ∧ ReturnedEndW s o t L 48 1216 := by
  have pre0 : ∀ t, Steps p.tables e below (s₁.setTop (mkF m 98 #[.val (.int p0_0), .val (.int p0_1), .val (.int p0_2), .val (.int p0_3), .val (.int zqA), .val (.int zqB), .val (.int zqC), .val (.int zqM), .val (.ref ra), .val (.ref rb), .unset, .unset] [])) t → Steps p.tables e below (s₁.setTop (mkF m 98 #[.val (.int p0_0), .val (.int p0_1), .val (.int p0_2), .val (.int p0_3), .val (.int zqA), .val (.int zqB), .val (.int zqC), .val (.int zqM), .val (.ref ra), .val (.ref rb), .unset, .unset] [])) t := fun t k => k
  rcases hd_zqC with hg | hg | hg
  · skip
    obtain ⟨_, _, ⟨T1, L1, k1, n1⟩, -, X1, ⟨Lc1, hQ1, l1, y1, z1⟩, st1⟩ := Jvm.LawKit.callS X0 hx (y := (⟨"com/example/batchrake/batchrake/DeleteReportHasFailuresPinLaw", "name", "(I)Ljava/lang/String;"⟩ : MethodName)) hown (mvT hZ (wd hw 51 rfl)) (mvT hZ (wd hw 52 rfl)) (mvT hZ (wd hw 53 rfl)) (mvT hZ (wd hw 54 rfl)) (by decide) (backOf (W := 1) (rm10 l Z a0 hw [] p0_2 cs h0 n0 Z0 (own_b20 B0) hcs) hZ (wd hw 54 rfl) (wd hw 53 rfl) (by decide) (by decide)) (g := (mkF m 107 #[.val (.int p0_0), .val (.int p0_1), .val (.int p0_2), .val (.int p0_3), .val (.int zqA), .val (.int zqB), .val (.int zqC), .val (.int zqM), .val (.ref ra), .val (.ref rb), .unset, .unset] [(.int p0_2), (.ref rb)])) rfl (by rw [hml]; rfl) (argsL := [(.int p0_2)]) (rest := [(.ref rb)]) (lenOf pd_19 rfl) rfl (by show 2 * 0 + _ ≤ _; exact Nat.le_of_eq rfl) (hb hby at_107) (fun _ _ => ⟨rfl, e0, (by decide : 24 + 2 ≤ _), (by decide : 600 + 5 ≤ _)⟩)
    dsimp only [Pt.U, Pt.locs, Pt.cells, Pt.slots] at X1 l1 y1 z1 st1 hQ1
    rw [l1, y1, z1] at X1
    obtain ⟨sx_1, rfl, N1q, Kc1, ggsx_1, szsx_1⟩ := hQ1
    have ne2 : ra ≠ sx_1 := Nat.ne_of_lt (Nat.lt_of_lt_of_le AEr.lt szsx_1)
    have ne3 : la ≠ sx_1 := Nat.ne_of_lt (Nat.lt_of_lt_of_le AEl.lt szsx_1)
    have ne4 : ea ≠ sx_1 := Nat.ne_of_lt (Nat.lt_of_lt_of_le AVe.lt szsx_1)
    have ne5 : rb ≠ sx_1 := Nat.ne_of_lt (Nat.lt_of_lt_of_le BEr.lt szsx_1)
    have ne6 : lb ≠ sx_1 := Nat.ne_of_lt (Nat.lt_of_lt_of_le BEl.lt szsx_1)
    have Zs1 : n0 ≤ T1.heap.size := Nat.le_trans Z0 Kc1.1
    have hCR := hCR.trans (CHr.keep Kc1 sf0 hCR.1)
    have hk := Nat.le_trans hk Kc1.1
    have F7 := own_bkeep B0 Kc1 all0 all0
    have F8 := AEr.keep Kc1
    have F9 := AFf.keep Kc1 nin0
    have F10 := AFd.keep Kc1 nin0
    have F11 := AFn.keep Kc1 nin0
    have F12 := AEl.keep Kc1
    have F13 := AFm.keep Kc1 nin0
    have F14 := AFz.keep Kc1 nin0
    have F15 := AFe.keep Kc1 nin0
    have F16 := AVe.keep Kc1 nin0
    have F17 := AEd.keep Kc1
    have F18 := BEr.keep Kc1
    have F19 := BFf.keep Kc1 nin0
    have F20 := BFd.keep Kc1 nin0
    have F21 := BFn.keep Kc1 nin0
    have F22 := BEl.keep Kc1
    have F23 := BFm.keep Kc1 nin0
    have F24 := BFz.keep Kc1 nin0
    have F25 := BFe.keep Kc1 nin0
    have N1 := Fr.app N0 N1q
    obtain ⟨_, _, ⟨T26, L26, k26, n26⟩, -, X26, ⟨Lc26, hQ26, l26, y26, z26⟩, st26⟩ := Jvm.LawKit.callS X1 hx (y := (⟨"com/example/batchrake/batchrake/DeleteReportHasFailuresPinLaw", "pick", "(I)Lcom/example/batchrake/batchrake/Outcome;"⟩ : MethodName)) hown (mvT hZ (wd hw 74 rfl)) (mvT hZ (wd hw 75 rfl)) (mvT hZ (wd hw 53 rfl)) (mvT hZ (wd hw 76 rfl)) (by decide) (backOf (W := 2) (rm11 l Z a0 hw [] zqC u_DELETED u_NOT_FOUND T1.heap n0 Zs1 (own_b2 F7) (own_b3 F7) (own_b5 F7) (own_b15 F7) (own_b16 F7) (own_b17 F7) hg) hZ (wd hw 76 rfl) (wd hw 53 rfl) (by decide) (by decide)) (g := (mkF m 112 #[.val (.int p0_0), .val (.int p0_1), .val (.int p0_2), .val (.int p0_3), .val (.int zqA), .val (.int zqB), .val (.int zqC), .val (.int zqM), .val (.ref ra), .val (.ref rb), .unset, .unset] [(.int zqC), (.ref sx_1), (.ref rb)])) rfl (by rw [hml]; rfl) (argsL := [(.int zqC)]) (rest := [(.ref sx_1), (.ref rb)]) (lenOf pd_20 rfl) rfl (by show 2 * 0 + _ ≤ _; exact Nat.le_of_eq rfl) (hb hby at_112) (fun _ _ => ⟨rfl, rfl, (by decide : 26 + 0 ≤ _), (by decide : 605 + 0 ≤ _)⟩)
    dsimp only [Pt.U, Pt.locs, Pt.cells, Pt.slots] at X26 l26 y26 z26 st26 hQ26
    rw [l26, y26, z26] at X26
    obtain ⟨ux_26, rfl, N26q, Kc26, G26_0, G26_1⟩ := hQ26
    have Zs26 : n0 ≤ T26.heap.size := Nat.le_trans Zs1 Kc26.1
    have hCR := hCR.trans (CHr.keep Kc26 sf0 hCR.1)
    have hk := Nat.le_trans hk Kc26.1
    have F27 := own_bkeep F7 Kc26 all0 all0
    have F28 := F8.keep Kc26
    have F29 := F9.keep Kc26 nin0
    have F30 := F10.keep Kc26 nin0
    have F31 := F11.keep Kc26 nin0
    have F32 := F12.keep Kc26
    have F33 := F13.keep Kc26 nin0
    have F34 := F14.keep Kc26 nin0
    have F35 := F15.keep Kc26 nin0
    have F36 := F16.keep Kc26 nin0
    have F37 := F17.keep Kc26
    have F38 := F18.keep Kc26
    have F39 := F19.keep Kc26 nin0
    have F40 := F20.keep Kc26 nin0
    have F41 := F21.keep Kc26 nin0
    have F42 := F22.keep Kc26
    have F43 := F23.keep Kc26 nin0
    have F44 := F24.keep Kc26 nin0
    have F45 := F25.keep Kc26 nin0
    have N26 := Fr.app N1 N26q
    obtain ⟨cq46, kq46, q46a, q46b, q46c⟩ := isOf hZ rfl F38
    obtain ⟨_, _, ⟨T46, L46, k46, n46⟩, -, X46, ⟨Lc46, hQ46, l46, y46, z46⟩, st46⟩ := X26.virtualBack hx (y := (⟨"com/example/batchrake/batchrake/DeleteReport", "add", "(Ljava/lang/String;Lcom/example/batchrake/batchrake/Outcome;)V"⟩ : MethodName)) (z := (⟨"com/example/batchrake/batchrake/DeleteReport", "add", "(Ljava/lang/String;Lcom/example/batchrake/batchrake/Outcome;)V"⟩ : MethodName)) hown (mvT hZ (wd hw 80 rfl)) (mvT hZ (wd hw 81 rfl)) (notFace_of_selects (args := #[]) (mvT hZ (wd hw 83 rfl))) (mvT hZ (wd hw 83 rfl)) (mvT hZ (wd hw 82 rfl)) (by decide) (backOf (W := 0) (rm39 l Z a0 hw [] rb sx_1 ux_26 u__SwitchMap_com_example_batchrake_batchrake_Outcome cl_u__SwitchMap_com_example_batchrake_batchrake_Outcome db nb lb zqC T26.heap n0 Zs26 (own_b4 F27) (own_b19 F27) F38 F39 F40 F41 G26_0 G26_1 hg g_rb) hZ (wd hw 84 rfl) (wd hw 3 rfl) (by decide) (by decide)) q46a q46c (g := (mkF m 115 #[.val (.int p0_0), .val (.int p0_1), .val (.int p0_2), .val (.int p0_3), .val (.int zqA), .val (.int zqB), .val (.int zqC), .val (.int zqM), .val (.ref ra), .val (.ref rb), .unset, .unset] [(.ref ux_26), (.ref sx_1), (.ref rb)])) rfl (by rw [hml]; rfl) (Steps.refl _) (argsL := [(.ref sx_1), (.ref ux_26)]) (rest := []) (lenOf pd_14 rfl) rfl (by show 2 * 0 + _ ≤ _; exact Nat.le_of_eq rfl) (hb hby at_115) (fun _ _ => ⟨rfl, rfl, (by decide : 26 + 0 ≤ _), (by decide : 605 + 0 ≤ _)⟩)
    dsimp only [Pt.U, Pt.locs, Pt.cells, Pt.slots] at X46 l46 y46 z46 st46 hQ46
    rw [l46, y46, z46] at X46
    obtain ⟨d2_46, n2_46, rfl, N46q, Kc46, G46_0, G46_1, G46_2, G46_3⟩ := hQ46
    have Zs46 : n0 ≤ T46.heap.size := Nat.le_trans Zs26 Kc46.1
    have hCR := hCR.trans (CHr.keep Kc46 (sfS own_safe0 sf0) hCR.1)
    have hk := Nat.le_trans hk Kc46.1
    have F47 := own_bkeep F27 Kc46 (allS g_rb all0) (allS (own_nsE F38) all0)
    have F48 := F28.keep Kc46
    have F49 := F29.keep Kc46 (ninS ne_ra_rb nin0)
    have F50 := F30.keep Kc46 (ninS ne_ra_rb nin0)
    have F51 := F31.keep Kc46 (ninS ne_ra_rb nin0)
    have F52 := F32.keep Kc46
    have F53 := F33.keep Kc46 (ninS ne_la_rb nin0)
    have F54 := F34.keep Kc46 (ninS ne_la_rb nin0)
    have F55 := F35.keep Kc46 (ninS ne_la_rb nin0)
    have F56 := F36.keep Kc46 (ninS ne_ea_rb nin0)
    have F57 := F37.keep Kc46
    have F58 := F42.keep Kc46
    have F59 := F43.keep Kc46 (ninS (Ne.symm ne_rb_lb) nin0)
    have F60 := F44.keep Kc46 (ninS (Ne.symm ne_rb_lb) nin0)
    have F61 := F45.keep Kc46 (ninS (Ne.symm ne_rb_lb) nin0)
    have F62 := G26_0.keep Kc46
    have N46 := Fr.app N26 N46q
    have k64 : ∀ t, Steps p.tables e below (T46.setTop (mkF m 118 #[.val (.int p0_0), .val (.int p0_1), .val (.int p0_2), .val (.int p0_3), .val (.int zqA), .val (.int zqB), .val (.int zqC), .val (.int zqM), .val (.ref ra), .val (.ref rb), .unset, .unset] [])) t → Steps p.tables e below (s₁.setTop (mkF m 98 #[.val (.int p0_0), .val (.int p0_1), .val (.int p0_2), .val (.int p0_3), .val (.int zqA), .val (.int zqB), .val (.int zqC), .val (.int zqM), .val (.ref ra), .val (.ref rb), .unset, .unset] [])) t := by
      intro t k
      refine pre0 t ?_
      refine XS.iload X0.here hx rfl (hb hby at_98) rfl ?_
      refine XS.iconst X0.here hx rfl (hb hby at_100) ?_
      refine XS.icmpNo X0.here hx rfl (hb hby at_101) rfl (tlt (own_gS _ hg).1).2.1 ?_
      refine XS.aload X0.here hx rfl (hb hby at_104) rfl rfl ?_
      refine XS.iloadN X0.here hx rfl (hb hby at_106) rfl ?_
      refine st1 _ ?_
      refine XS.iload X1.here hx rfl (hb hby at_110) rfl ?_
      refine st26 _ ?_
      refine st46.trans ?_
      exact k
    obtain ⟨t_, o_, ss_, s2_, s3_, v_, L_, hv_, hq_, hf_⟩ := sgDP0 hw hEL wS p0_0 p0_1 p0_2 p0_3 zqA zqB zqC zqM ra la da na ma ea ka ks va rb lb d2_46 n2_46 mb u_DEFAULTCAPACITY_EMPTY_ELEMENTDATA cl_u_DEFAULTCAPACITY_EMPTY_ELEMENTDATA u_DELETED u__SwitchMap_com_example_batchrake_batchrake_Outcome cl_u__SwitchMap_com_example_batchrake_batchrake_Outcome u_CONFLICT u_BAD_REQUEST u_STORE_ERROR u_NOT_FOUND cs mr T46.heap n0 Zs46 F47 F48 F49 F50 F51 F52 F53 F54 F55 F56 F57 G46_0 G46_1 G46_2 G46_3 F58 F59 F60 F61 hcs hmir ne_ra_la ne_ra_ea ne_ra_rb ne_ra_lb ne_la_ea ne_la_rb ne_la_lb ne_ea_rb ne_ea_lb ne_rb_lb hovA hks hva hA (own_gS _ hg).2 g_ra g_la g_ea g_rb g_lb (X46.more (by decide) (by decide)) hx hZ hby hml hown hret (by first | assumption | exact BodyLoose.notSynchronized (by assumption) | exact Body.notSynchronized (by assumption)) rfl N46 hh hS hk hCR
    exact ⟨t_, o_, k64 _ ss_, s2_, s3_, v_, L_, hv_, hq_, hf_⟩
  · skip
    obtain ⟨_, _, ⟨T65, L65, k65, n65⟩, -, X65, ⟨Lc65, hQ65, l65, y65, z65⟩, st65⟩ := Jvm.LawKit.callS X0 hx (y := (⟨"com/example/batchrake/batchrake/DeleteReportHasFailuresPinLaw", "name", "(I)Ljava/lang/String;"⟩ : MethodName)) hown (mvT hZ (wd hw 51 rfl)) (mvT hZ (wd hw 52 rfl)) (mvT hZ (wd hw 53 rfl)) (mvT hZ (wd hw 54 rfl)) (by decide) (backOf (W := 1) (rm10 l Z a0 hw [] p0_2 cs h0 n0 Z0 (own_b20 B0) hcs) hZ (wd hw 54 rfl) (wd hw 53 rfl) (by decide) (by decide)) (g := (mkF m 107 #[.val (.int p0_0), .val (.int p0_1), .val (.int p0_2), .val (.int p0_3), .val (.int zqA), .val (.int zqB), .val (.int zqC), .val (.int zqM), .val (.ref ra), .val (.ref rb), .unset, .unset] [(.int p0_2), (.ref rb)])) rfl (by rw [hml]; rfl) (argsL := [(.int p0_2)]) (rest := [(.ref rb)]) (lenOf pd_19 rfl) rfl (by show 2 * 0 + _ ≤ _; exact Nat.le_of_eq rfl) (hb hby at_107) (fun _ _ => ⟨rfl, e0, (by decide : 24 + 2 ≤ _), (by decide : 600 + 5 ≤ _)⟩)
    dsimp only [Pt.U, Pt.locs, Pt.cells, Pt.slots] at X65 l65 y65 z65 st65 hQ65
    rw [l65, y65, z65] at X65
    obtain ⟨sx_65, rfl, N65q, Kc65, ggsx_65, szsx_65⟩ := hQ65
    have ne66 : ra ≠ sx_65 := Nat.ne_of_lt (Nat.lt_of_lt_of_le AEr.lt szsx_65)
    have ne67 : la ≠ sx_65 := Nat.ne_of_lt (Nat.lt_of_lt_of_le AEl.lt szsx_65)
    have ne68 : ea ≠ sx_65 := Nat.ne_of_lt (Nat.lt_of_lt_of_le AVe.lt szsx_65)
    have ne69 : rb ≠ sx_65 := Nat.ne_of_lt (Nat.lt_of_lt_of_le BEr.lt szsx_65)
    have ne70 : lb ≠ sx_65 := Nat.ne_of_lt (Nat.lt_of_lt_of_le BEl.lt szsx_65)
    have Zs65 : n0 ≤ T65.heap.size := Nat.le_trans Z0 Kc65.1
    have hCR := hCR.trans (CHr.keep Kc65 sf0 hCR.1)
    have hk := Nat.le_trans hk Kc65.1
    have F71 := own_bkeep B0 Kc65 all0 all0
    have F72 := AEr.keep Kc65
    have F73 := AFf.keep Kc65 nin0
    have F74 := AFd.keep Kc65 nin0
    have F75 := AFn.keep Kc65 nin0
    have F76 := AEl.keep Kc65
    have F77 := AFm.keep Kc65 nin0
    have F78 := AFz.keep Kc65 nin0
    have F79 := AFe.keep Kc65 nin0
    have F80 := AVe.keep Kc65 nin0
    have F81 := AEd.keep Kc65
    have F82 := BEr.keep Kc65
    have F83 := BFf.keep Kc65 nin0
    have F84 := BFd.keep Kc65 nin0
    have F85 := BFn.keep Kc65 nin0
    have F86 := BEl.keep Kc65
    have F87 := BFm.keep Kc65 nin0
    have F88 := BFz.keep Kc65 nin0
    have F89 := BFe.keep Kc65 nin0
    have N65 := Fr.app N0 N65q
    obtain ⟨_, _, ⟨T90, L90, k90, n90⟩, -, X90, ⟨Lc90, hQ90, l90, y90, z90⟩, st90⟩ := Jvm.LawKit.callS X65 hx (y := (⟨"com/example/batchrake/batchrake/DeleteReportHasFailuresPinLaw", "pick", "(I)Lcom/example/batchrake/batchrake/Outcome;"⟩ : MethodName)) hown (mvT hZ (wd hw 74 rfl)) (mvT hZ (wd hw 75 rfl)) (mvT hZ (wd hw 53 rfl)) (mvT hZ (wd hw 76 rfl)) (by decide) (backOf (W := 2) (rm12 l Z a0 hw [] zqC u_BAD_REQUEST u_CONFLICT u_STORE_ERROR T65.heap n0 Zs65 (own_b9 F71) (own_b10 F71) (own_b11 F71) (own_b6 F71) (own_b7 F71) (own_b8 F71) (own_b12 F71) (own_b13 F71) (own_b14 F71) hg) hZ (wd hw 76 rfl) (wd hw 53 rfl) (by decide) (by decide)) (g := (mkF m 112 #[.val (.int p0_0), .val (.int p0_1), .val (.int p0_2), .val (.int p0_3), .val (.int zqA), .val (.int zqB), .val (.int zqC), .val (.int zqM), .val (.ref ra), .val (.ref rb), .unset, .unset] [(.int zqC), (.ref sx_65), (.ref rb)])) rfl (by rw [hml]; rfl) (argsL := [(.int zqC)]) (rest := [(.ref sx_65), (.ref rb)]) (lenOf pd_20 rfl) rfl (by show 2 * 0 + _ ≤ _; exact Nat.le_of_eq rfl) (hb hby at_112) (fun _ _ => ⟨rfl, rfl, (by decide : 26 + 0 ≤ _), (by decide : 605 + 0 ≤ _)⟩)
    dsimp only [Pt.U, Pt.locs, Pt.cells, Pt.slots] at X90 l90 y90 z90 st90 hQ90
    rw [l90, y90, z90] at X90
    obtain ⟨ux_90, rfl, N90q, Kc90, G90_0, G90_1⟩ := hQ90
    have Zs90 : n0 ≤ T90.heap.size := Nat.le_trans Zs65 Kc90.1
    have hCR := hCR.trans (CHr.keep Kc90 sf0 hCR.1)
    have hk := Nat.le_trans hk Kc90.1
    have F91 := own_bkeep F71 Kc90 all0 all0
    have F92 := F72.keep Kc90
    have F93 := F73.keep Kc90 nin0
    have F94 := F74.keep Kc90 nin0
    have F95 := F75.keep Kc90 nin0
    have F96 := F76.keep Kc90
    have F97 := F77.keep Kc90 nin0
    have F98 := F78.keep Kc90 nin0
    have F99 := F79.keep Kc90 nin0
    have F100 := F80.keep Kc90 nin0
    have F101 := F81.keep Kc90
    have F102 := F82.keep Kc90
    have F103 := F83.keep Kc90 nin0
    have F104 := F84.keep Kc90 nin0
    have F105 := F85.keep Kc90 nin0
    have F106 := F86.keep Kc90
    have F107 := F87.keep Kc90 nin0
    have F108 := F88.keep Kc90 nin0
    have F109 := F89.keep Kc90 nin0
    have N90 := Fr.app N65 N90q
    obtain ⟨cq110, kq110, q110a, q110b, q110c⟩ := isOf hZ rfl F102
    obtain ⟨_, _, ⟨T110, L110, k110, n110⟩, -, X110, ⟨Lc110, hQ110, l110, y110, z110⟩, st110⟩ := X90.virtualBack hx (y := (⟨"com/example/batchrake/batchrake/DeleteReport", "add", "(Ljava/lang/String;Lcom/example/batchrake/batchrake/Outcome;)V"⟩ : MethodName)) (z := (⟨"com/example/batchrake/batchrake/DeleteReport", "add", "(Ljava/lang/String;Lcom/example/batchrake/batchrake/Outcome;)V"⟩ : MethodName)) hown (mvT hZ (wd hw 80 rfl)) (mvT hZ (wd hw 81 rfl)) (notFace_of_selects (args := #[]) (mvT hZ (wd hw 83 rfl))) (mvT hZ (wd hw 83 rfl)) (mvT hZ (wd hw 82 rfl)) (by decide) (backOf (W := 0) (rm40 l Z a0 hw [] rb sx_65 ux_90 u__SwitchMap_com_example_batchrake_batchrake_Outcome cl_u__SwitchMap_com_example_batchrake_batchrake_Outcome lb zqC mb u_DEFAULTCAPACITY_EMPTY_ELEMENTDATA cl_u_DEFAULTCAPACITY_EMPTY_ELEMENTDATA T90.heap n0 Zs90 (own_b4 F91) (own_b19 F91) F102 F103 G90_0 G90_1 F106 F107 F108 F109 (own_b0 F91) (own_b18 F91) hg (Nat.ne_of_lt (Nat.lt_of_lt_of_le (own_b21 F91) g_lb)) g_lb) hZ (wd hw 84 rfl) (wd hw 3 rfl) (by decide) (by decide)) q110a q110c (g := (mkF m 115 #[.val (.int p0_0), .val (.int p0_1), .val (.int p0_2), .val (.int p0_3), .val (.int zqA), .val (.int zqB), .val (.int zqC), .val (.int zqM), .val (.ref ra), .val (.ref rb), .unset, .unset] [(.ref ux_90), (.ref sx_65), (.ref rb)])) rfl (by rw [hml]; rfl) (Steps.refl _) (argsL := [(.ref sx_65), (.ref ux_90)]) (rest := []) (lenOf pd_14 rfl) rfl (by show 2 * 0 + _ ≤ _; exact Nat.le_of_eq rfl) (hb hby at_115) (fun _ _ => ⟨rfl, rfl, (by decide : 26 + 2 ≤ _), (by decide : 605 + 12 ≤ _)⟩)
    dsimp only [Pt.U, Pt.locs, Pt.cells, Pt.slots] at X110 l110 y110 z110 st110 hQ110
    rw [l110, y110, z110] at X110
    obtain ⟨fx_110, en_110, kn_110, rfl, N110q, Kc110, ggfx_110, szfx_110, ggen_110, szen_110, G110_0, G110_1, G110_2, G110_3, G110_4, G110_5, G110_6, P110_0⟩ := hQ110
    have ne111 : ra ≠ fx_110 := Nat.ne_of_lt (Nat.lt_of_lt_of_le F92.lt szfx_110)
    have ne112 : la ≠ fx_110 := Nat.ne_of_lt (Nat.lt_of_lt_of_le F96.lt szfx_110)
    have ne113 : ea ≠ fx_110 := Nat.ne_of_lt (Nat.lt_of_lt_of_le F100.lt szfx_110)
    have ne114 : rb ≠ fx_110 := Nat.ne_of_lt (Nat.lt_of_lt_of_le F102.lt szfx_110)
    have ne115 : lb ≠ fx_110 := Nat.ne_of_lt (Nat.lt_of_lt_of_le F106.lt szfx_110)
    have ne116 : ux_90 ≠ fx_110 := Nat.ne_of_lt (Nat.lt_of_lt_of_le G90_0.lt szfx_110)
    have ne117 : ra ≠ en_110 := Nat.ne_of_lt (Nat.lt_of_lt_of_le F92.lt szen_110)
    have ne118 : la ≠ en_110 := Nat.ne_of_lt (Nat.lt_of_lt_of_le F96.lt szen_110)
    have ne119 : ea ≠ en_110 := Nat.ne_of_lt (Nat.lt_of_lt_of_le F100.lt szen_110)
    have ne120 : rb ≠ en_110 := Nat.ne_of_lt (Nat.lt_of_lt_of_le F102.lt szen_110)
    have ne121 : lb ≠ en_110 := Nat.ne_of_lt (Nat.lt_of_lt_of_le F106.lt szen_110)
    have ne122 : ux_90 ≠ en_110 := Nat.ne_of_lt (Nat.lt_of_lt_of_le G90_0.lt szen_110)
    have Zs110 : n0 ≤ T110.heap.size := Nat.le_trans Zs90 Kc110.1
    have hCR := hCR.trans (CHr.keep Kc110 (sfS own_safe0 sf0) hCR.1)
    have hk := Nat.le_trans hk Kc110.1
    have F123 := own_bkeep F91 Kc110 (allS g_lb all0) (allS (own_nsE F106) all0)
    have F124 := F92.keep Kc110
    have F125 := F93.keep Kc110 (ninS ne_ra_lb nin0)
    have F126 := F94.keep Kc110 (ninS ne_ra_lb nin0)
    have F127 := F95.keep Kc110 (ninS ne_ra_lb nin0)
    have F128 := F96.keep Kc110
    have F129 := F97.keep Kc110 (ninS ne_la_lb nin0)
    have F130 := F98.keep Kc110 (ninS ne_la_lb nin0)
    have F131 := F99.keep Kc110 (ninS ne_la_lb nin0)
    have F132 := F100.keep Kc110 (ninS ne_ea_lb nin0)
    have F133 := F101.keep Kc110
    have F134 := F102.keep Kc110
    have F135 := F103.keep Kc110 (ninS ne_rb_lb nin0)
    have F136 := F104.keep Kc110 (ninS ne_rb_lb nin0)
    have F137 := F105.keep Kc110 (ninS ne_rb_lb nin0)
    have F138 := G90_0.keep Kc110
    have N110 := Fr.app N90 N110q
    have k140 : ∀ t, Steps p.tables e below (T110.setTop (mkF m 118 #[.val (.int p0_0), .val (.int p0_1), .val (.int p0_2), .val (.int p0_3), .val (.int zqA), .val (.int zqB), .val (.int zqC), .val (.int zqM), .val (.ref ra), .val (.ref rb), .unset, .unset] [])) t → Steps p.tables e below (s₁.setTop (mkF m 98 #[.val (.int p0_0), .val (.int p0_1), .val (.int p0_2), .val (.int p0_3), .val (.int zqA), .val (.int zqB), .val (.int zqC), .val (.int zqM), .val (.ref ra), .val (.ref rb), .unset, .unset] [])) t := by
      intro t k
      refine pre0 t ?_
      refine XS.iload X0.here hx rfl (hb hby at_98) rfl ?_
      refine XS.iconst X0.here hx rfl (hb hby at_100) ?_
      refine XS.icmpNo X0.here hx rfl (hb hby at_101) rfl (tlt (own_gF _ hg).1).2.1 ?_
      refine XS.aload X0.here hx rfl (hb hby at_104) rfl rfl ?_
      refine XS.iloadN X0.here hx rfl (hb hby at_106) rfl ?_
      refine st65 _ ?_
      refine XS.iload X65.here hx rfl (hb hby at_110) rfl ?_
      refine st90 _ ?_
      refine st110.trans ?_
      exact k
    obtain ⟨t_, o_, ss_, s2_, s3_, v_, L_, hv_, hq_, hf_⟩ := sgDP1 hw hEL wS p0_0 p0_1 p0_2 p0_3 zqA zqB zqC zqM ra la da na ma ea ka ks va rb lb db nb (mb + (1 : Int32)) en_110 kn_110 fx_110 u_DEFAULTCAPACITY_EMPTY_ELEMENTDATA cl_u_DEFAULTCAPACITY_EMPTY_ELEMENTDATA u_DELETED u__SwitchMap_com_example_batchrake_batchrake_Outcome cl_u__SwitchMap_com_example_batchrake_batchrake_Outcome u_CONFLICT u_BAD_REQUEST u_STORE_ERROR u_NOT_FOUND cs mr T110.heap n0 Zs110 F123 F124 F125 F126 F127 F128 F129 F130 F131 F132 F133 F134 F135 F136 F137 G110_0 G110_1 G110_2 G110_3 G110_4 G110_5 G110_6 hcs hmir ne_ra_la ne_ra_ea ne_ra_rb ne_ra_lb ne117 ne_la_ea ne_la_rb ne_la_lb ne118 ne_ea_rb ne_ea_lb ne119 ne_rb_lb ne120 ne121 hovA hks hva P110_0 hA (own_gF _ hg).2 g_ra g_la g_ea g_rb g_lb ggen_110 (X110.more (by decide) (by decide)) hx hZ hby hml hown hret (by first | assumption | exact BodyLoose.notSynchronized (by assumption) | exact Body.notSynchronized (by assumption)) rfl N110 hh hS hk hCR
    exact ⟨t_, o_, k140 _ ss_, s2_, s3_, v_, L_, hv_, hq_, hf_⟩
  · skip
    have k141 : ∀ t, Steps p.tables e below (s₁.setTop (mkF m 118 #[.val (.int p0_0), .val (.int p0_1), .val (.int p0_2), .val (.int p0_3), .val (.int zqA), .val (.int zqB), .val (.int zqC), .val (.int zqM), .val (.ref ra), .val (.ref rb), .unset, .unset] [])) t → Steps p.tables e below (s₁.setTop (mkF m 98 #[.val (.int p0_0), .val (.int p0_1), .val (.int p0_2), .val (.int p0_3), .val (.int zqA), .val (.int zqB), .val (.int zqC), .val (.int zqM), .val (.ref ra), .val (.ref rb), .unset, .unset] [])) t := by
      intro t k
      refine pre0 t ?_
      refine XS.iload X0.here hx rfl (hb hby at_98) rfl ?_
      refine XS.iconst X0.here hx rfl (hb hby at_100) ?_
      refine XS.icmpYes X0.here hx rfl (pc0 := 101) (pc' := 118) rfl (hb hby at_101) rfl (flt (own_g5 _ hg).1).2.1 (by decide) (by decide) ?_
      exact k
    obtain ⟨t_, o_, ss_, s2_, s3_, v_, L_, hv_, hq_, hf_⟩ := sgDP0 hw hEL wS p0_0 p0_1 p0_2 p0_3 zqA zqB zqC zqM ra la da na ma ea ka ks va rb lb db nb mb u_DEFAULTCAPACITY_EMPTY_ELEMENTDATA cl_u_DEFAULTCAPACITY_EMPTY_ELEMENTDATA u_DELETED u__SwitchMap_com_example_batchrake_batchrake_Outcome cl_u__SwitchMap_com_example_batchrake_batchrake_Outcome u_CONFLICT u_BAD_REQUEST u_STORE_ERROR u_NOT_FOUND cs mr h0 n0 Z0 B0 AEr AFf AFd AFn AEl AFm AFz AFe AVe AEd BEr BFf BFd BFn BEl BFm BFz BFe hcs hmir ne_ra_la ne_ra_ea ne_ra_rb ne_ra_lb ne_la_ea ne_la_rb ne_la_lb ne_ea_rb ne_ea_lb ne_rb_lb hovA hks hva hA (own_g5 _ hg).2 g_ra g_la g_ea g_rb g_lb (X0.more (by decide) (by decide)) hx hZ hby hml hown hret (by first | assumption | exact BodyLoose.notSynchronized (by assumption) | exact Body.notSynchronized (by assumption)) e0 N0 hh hS hk hCR
    exact ⟨t_, o_, k141 _ ss_, s2_, s3_, v_, L_, hv_, hq_, hf_⟩
set_option maxRecDepth 65536 in
set_option maxHeartbeats 40000000 in
theorem sgB0 {p : Program} {l : Launch} {e : Env} {s : State} {m : MethodId} {args : Array Value} {below : List Frame} {meth : Method} {c : Code} {s₁ : State} {locs : List Loc} {vm0 : Vm} {k0 : Nat} {hs0 : Heap} {Z : State} {a0 : Array Value} (hw : ∀ d ∈ tables_1, d.before a0 Z = true) (hEL : EW Z a0 consts_1) (wS : ∀ a ∈ Bundle.stringAtoms, a.before a0 Z = true) (p0_0 : Int32) (p0_1 : Int32) (p0_2 : Int32) (p0_3 : Int32) (zqA : Int32) (zqB : Int32) (zqC : Int32) (zqM : Int32) (ra : Addr) (la : Addr) (da : Int32) (na : Int32) (ma : Int32) (rb : Addr) (lb : Addr) (db : Int32) (nb : Int32) (mb : Int32) (u_DEFAULTCAPACITY_EMPTY_ELEMENTDATA : Addr) (cl_u_DEFAULTCAPACITY_EMPTY_ELEMENTDATA : Cell) (u_DELETED : Addr) (u__SwitchMap_com_example_batchrake_batchrake_Outcome : Addr) (cl_u__SwitchMap_com_example_batchrake_batchrake_Outcome : Cell) (u_CONFLICT : Addr) (u_BAD_REQUEST : Addr) (u_STORE_ERROR : Addr) (u_NOT_FOUND : Addr) (cs : Int32) (mr : Addr) (h0 : Heap) (n0 : Nat) (Z0 : n0 ≤ h0.size) (B0 : own_base Z n0 h0 u_DEFAULTCAPACITY_EMPTY_ELEMENTDATA cl_u_DEFAULTCAPACITY_EMPTY_ELEMENTDATA u_DELETED u__SwitchMap_com_example_batchrake_batchrake_Outcome cl_u__SwitchMap_com_example_batchrake_batchrake_Outcome u_CONFLICT u_BAD_REQUEST u_STORE_ERROR u_NOT_FOUND cs) (AEr : Exa Z h0 ra "com/example/batchrake/batchrake/DeleteReport") (AFf : Fld Z h0 ra "com/example/batchrake/batchrake/DeleteReport" "failures" "Ljava/util/List;" (.ref la)) (AFd : Fld Z h0 ra "com/example/batchrake/batchrake/DeleteReport" "deleted" "I" (.int da)) (AFn : Fld Z h0 ra "com/example/batchrake/batchrake/DeleteReport" "notFound" "I" (.int na)) (AEl : Exa Z h0 la "java/util/ArrayList") (AFm : Fld Z h0 la "java/util/AbstractList" "modCount" "I" (.int ma)) (AFz : Fld Z h0 la "java/util/ArrayList" "size" "I" (.int (0 : Int32))) (AFe : Fld Z h0 la "java/util/ArrayList" "elementData" "[Ljava/lang/Object;" (.ref u_DEFAULTCAPACITY_EMPTY_ELEMENTDATA)) (BEr : Exa Z h0 rb "com/example/batchrake/batchrake/DeleteReport") (BFf : Fld Z h0 rb "com/example/batchrake/batchrake/DeleteReport" "failures" "Ljava/util/List;" (.ref lb)) (BFd : Fld Z h0 rb "com/example/batchrake/batchrake/DeleteReport" "deleted" "I" (.int db)) (BFn : Fld Z h0 rb "com/example/batchrake/batchrake/DeleteReport" "notFound" "I" (.int nb)) (BEl : Exa Z h0 lb "java/util/ArrayList") (BFm : Fld Z h0 lb "java/util/AbstractList" "modCount" "I" (.int mb)) (BFz : Fld Z h0 lb "java/util/ArrayList" "size" "I" (.int (0 : Int32))) (BFe : Fld Z h0 lb "java/util/ArrayList" "elementData" "[Ljava/lang/Object;" (.ref u_DEFAULTCAPACITY_EMPTY_ELEMENTDATA)) (hcs : ¬ (cs = (0 : Int32))) (hmir : Mir Z "[Ljava/lang/Object;" mr) (ne_ra_la : ra ≠ la) (ne_ra_rb : ra ≠ rb) (ne_ra_lb : ra ≠ lb) (ne_la_rb : la ≠ rb) (ne_la_lb : la ≠ lb) (ne_rb_lb : rb ≠ lb) (hd_zqB : (zqB = (0 : Int32) ∨ zqB = (1 : Int32)) ∨ (zqB = (2 : Int32) ∨ zqB = (3 : Int32) ∨ zqB = (4 : Int32)) ∨ zqB = (5 : Int32)) (hd_zqC : (zqC = (0 : Int32) ∨ zqC = (1 : Int32)) ∨ (zqC = (2 : Int32) ∨ zqC = (3 : Int32) ∨ zqC = (4 : Int32)) ∨ zqC = (5 : Int32)) (hA : own_fails zqA = (0 : Int32)) (g_ra : n0 ≤ ra) (g_la : n0 ≤ la) (g_rb : n0 ≤ rb) (g_lb : n0 ≤ lb)
    (X0 : Stand p l e room_1 (s.setVm vm0) m args below meth c s₁ locs 14 400) (hx : p.tables.exec = Jvm.exec) (hZ : Z.Warmed39 (s.setVm vm0).vm) (hby : c.code = code) (hml : c.maxLocals = 12) (hown : (s.setVm vm0).vm.findClass "com/example/batchrake/batchrake/DeleteReportHasFailuresPinLaw" = some m.cls) (hret : meth.sig.returnType = some .boolean) (hlk : meth.locks = false) (e0 : s₁.heap = h0) (N0 : Fr n0 locs) (hh : s.heap = hs0) (hS : s.Since vm0 k0) (hk : k0 ≤ h0.size) (hCR : CHr Z consts_1 s.vm hs0 vm0 h0) :
    ∃ t o, Steps p.tables e below (s₁.setTop (mkF m 78 #[.val (.int p0_0), .val (.int p0_1), .val (.int p0_2), .val (.int p0_3), .val (.int zqA), .val (.int zqB), .val (.int zqC), .val (.int zqM), .val (.ref ra), .val (.ref rb), .unset, .unset] [])) t ∧ t.status = .running ∧ Ended t below o ∧ ∃ v L, o = .returned v ∧ (v = some (.int (1 : Int32)) ∧ Fr n0 L) ∧ CHr Z consts_1 s.vm s.heap t.vm t.heap ∧ ReturnedEndW s o t L 48 1216 := by
  have pre0 : ∀ t, Steps p.tables e below (s₁.setTop (mkF m 78 #[.val (.int p0_0), .val (.int p0_1), .val (.int p0_2), .val (.int p0_3), .val (.int zqA), .val (.int zqB), .val (.int zqC), .val (.int zqM), .val (.ref ra), .val (.ref rb), .unset, .unset] [])) t → Steps p.tables e below (s₁.setTop (mkF m 78 #[.val (.int p0_0), .val (.int p0_1), .val (.int p0_2), .val (.int p0_3), .val (.int zqA), .val (.int zqB), .val (.int zqC), .val (.int zqM), .val (.ref ra), .val (.ref rb), .unset, .unset] [])) t := fun t k => k
  rcases hd_zqB with hg | hg | hg
  · skip
    obtain ⟨_, _, ⟨T1, L1, k1, n1⟩, -, X1, ⟨Lc1, hQ1, l1, y1, z1⟩, st1⟩ := Jvm.LawKit.callS X0 hx (y := (⟨"com/example/batchrake/batchrake/DeleteReportHasFailuresPinLaw", "name", "(I)Ljava/lang/String;"⟩ : MethodName)) hown (mvT hZ (wd hw 51 rfl)) (mvT hZ (wd hw 52 rfl)) (mvT hZ (wd hw 53 rfl)) (mvT hZ (wd hw 54 rfl)) (by decide) (backOf (W := 1) (rm10 l Z a0 hw [] p0_1 cs h0 n0 Z0 (own_b20 B0) hcs) hZ (wd hw 54 rfl) (wd hw 53 rfl) (by decide) (by decide)) (g := (mkF m 87 #[.val (.int p0_0), .val (.int p0_1), .val (.int p0_2), .val (.int p0_3), .val (.int zqA), .val (.int zqB), .val (.int zqC), .val (.int zqM), .val (.ref ra), .val (.ref rb), .unset, .unset] [(.int p0_1), (.ref ra)])) rfl (by rw [hml]; rfl) (argsL := [(.int p0_1)]) (rest := [(.ref ra)]) (lenOf pd_19 rfl) rfl (by show 2 * 0 + _ ≤ _; exact Nat.le_of_eq rfl) (hb hby at_87) (fun _ _ => ⟨rfl, e0, (by decide : 14 + 2 ≤ _), (by decide : 400 + 5 ≤ _)⟩)
    dsimp only [Pt.U, Pt.locs, Pt.cells, Pt.slots] at X1 l1 y1 z1 st1 hQ1
    rw [l1, y1, z1] at X1
    obtain ⟨sx_1, rfl, N1q, Kc1, ggsx_1, szsx_1⟩ := hQ1
    have ne2 : ra ≠ sx_1 := Nat.ne_of_lt (Nat.lt_of_lt_of_le AEr.lt szsx_1)
    have ne3 : la ≠ sx_1 := Nat.ne_of_lt (Nat.lt_of_lt_of_le AEl.lt szsx_1)
    have ne4 : rb ≠ sx_1 := Nat.ne_of_lt (Nat.lt_of_lt_of_le BEr.lt szsx_1)
    have ne5 : lb ≠ sx_1 := Nat.ne_of_lt (Nat.lt_of_lt_of_le BEl.lt szsx_1)
    have Zs1 : n0 ≤ T1.heap.size := Nat.le_trans Z0 Kc1.1
    have hCR := hCR.trans (CHr.keep Kc1 sf0 hCR.1)
    have hk := Nat.le_trans hk Kc1.1
    have F6 := own_bkeep B0 Kc1 all0 all0
    have F7 := AEr.keep Kc1
    have F8 := AFf.keep Kc1 nin0
    have F9 := AFd.keep Kc1 nin0
    have F10 := AFn.keep Kc1 nin0
    have F11 := AEl.keep Kc1
    have F12 := AFm.keep Kc1 nin0
    have F13 := AFz.keep Kc1 nin0
    have F14 := AFe.keep Kc1 nin0
    have F15 := BEr.keep Kc1
    have F16 := BFf.keep Kc1 nin0
    have F17 := BFd.keep Kc1 nin0
    have F18 := BFn.keep Kc1 nin0
    have F19 := BEl.keep Kc1
    have F20 := BFm.keep Kc1 nin0
    have F21 := BFz.keep Kc1 nin0
    have F22 := BFe.keep Kc1 nin0
    have N1 := Fr.app N0 N1q
    obtain ⟨_, _, ⟨T23, L23, k23, n23⟩, -, X23, ⟨Lc23, hQ23, l23, y23, z23⟩, st23⟩ := Jvm.LawKit.callS X1 hx (y := (⟨"com/example/batchrake/batchrake/DeleteReportHasFailuresPinLaw", "pick", "(I)Lcom/example/batchrake/batchrake/Outcome;"⟩ : MethodName)) hown (mvT hZ (wd hw 74 rfl)) (mvT hZ (wd hw 75 rfl)) (mvT hZ (wd hw 53 rfl)) (mvT hZ (wd hw 76 rfl)) (by decide) (backOf (W := 2) (rm11 l Z a0 hw [] zqB u_DELETED u_NOT_FOUND T1.heap n0 Zs1 (own_b2 F6) (own_b3 F6) (own_b5 F6) (own_b15 F6) (own_b16 F6) (own_b17 F6) hg) hZ (wd hw 76 rfl) (wd hw 53 rfl) (by decide) (by decide)) (g := (mkF m 92 #[.val (.int p0_0), .val (.int p0_1), .val (.int p0_2), .val (.int p0_3), .val (.int zqA), .val (.int zqB), .val (.int zqC), .val (.int zqM), .val (.ref ra), .val (.ref rb), .unset, .unset] [(.int zqB), (.ref sx_1), (.ref ra)])) rfl (by rw [hml]; rfl) (argsL := [(.int zqB)]) (rest := [(.ref sx_1), (.ref ra)]) (lenOf pd_20 rfl) rfl (by show 2 * 0 + _ ≤ _; exact Nat.le_of_eq rfl) (hb hby at_92) (fun _ _ => ⟨rfl, rfl, (by decide : 16 + 0 ≤ _), (by decide : 405 + 0 ≤ _)⟩)
    dsimp only [Pt.U, Pt.locs, Pt.cells, Pt.slots] at X23 l23 y23 z23 st23 hQ23
    rw [l23, y23, z23] at X23
    obtain ⟨ux_23, rfl, N23q, Kc23, G23_0, G23_1⟩ := hQ23
    have Zs23 : n0 ≤ T23.heap.size := Nat.le_trans Zs1 Kc23.1
    have hCR := hCR.trans (CHr.keep Kc23 sf0 hCR.1)
    have hk := Nat.le_trans hk Kc23.1
    have F24 := own_bkeep F6 Kc23 all0 all0
    have F25 := F7.keep Kc23
    have F26 := F8.keep Kc23 nin0
    have F27 := F9.keep Kc23 nin0
    have F28 := F10.keep Kc23 nin0
    have F29 := F11.keep Kc23
    have F30 := F12.keep Kc23 nin0
    have F31 := F13.keep Kc23 nin0
    have F32 := F14.keep Kc23 nin0
    have F33 := F15.keep Kc23
    have F34 := F16.keep Kc23 nin0
    have F35 := F17.keep Kc23 nin0
    have F36 := F18.keep Kc23 nin0
    have F37 := F19.keep Kc23
    have F38 := F20.keep Kc23 nin0
    have F39 := F21.keep Kc23 nin0
    have F40 := F22.keep Kc23 nin0
    have N23 := Fr.app N1 N23q
    obtain ⟨cq41, kq41, q41a, q41b, q41c⟩ := isOf hZ rfl F25
    obtain ⟨_, _, ⟨T41, L41, k41, n41⟩, -, X41, ⟨Lc41, hQ41, l41, y41, z41⟩, st41⟩ := X23.virtualBack hx (y := (⟨"com/example/batchrake/batchrake/DeleteReport", "add", "(Ljava/lang/String;Lcom/example/batchrake/batchrake/Outcome;)V"⟩ : MethodName)) (z := (⟨"com/example/batchrake/batchrake/DeleteReport", "add", "(Ljava/lang/String;Lcom/example/batchrake/batchrake/Outcome;)V"⟩ : MethodName)) hown (mvT hZ (wd hw 80 rfl)) (mvT hZ (wd hw 81 rfl)) (notFace_of_selects (args := #[]) (mvT hZ (wd hw 83 rfl))) (mvT hZ (wd hw 83 rfl)) (mvT hZ (wd hw 82 rfl)) (by decide) (backOf (W := 0) (rm39 l Z a0 hw [] ra sx_1 ux_23 u__SwitchMap_com_example_batchrake_batchrake_Outcome cl_u__SwitchMap_com_example_batchrake_batchrake_Outcome da na la zqB T23.heap n0 Zs23 (own_b4 F24) (own_b19 F24) F25 F26 F27 F28 G23_0 G23_1 hg g_ra) hZ (wd hw 84 rfl) (wd hw 3 rfl) (by decide) (by decide)) q41a q41c (g := (mkF m 95 #[.val (.int p0_0), .val (.int p0_1), .val (.int p0_2), .val (.int p0_3), .val (.int zqA), .val (.int zqB), .val (.int zqC), .val (.int zqM), .val (.ref ra), .val (.ref rb), .unset, .unset] [(.ref ux_23), (.ref sx_1), (.ref ra)])) rfl (by rw [hml]; rfl) (Steps.refl _) (argsL := [(.ref sx_1), (.ref ux_23)]) (rest := []) (lenOf pd_14 rfl) rfl (by show 2 * 0 + _ ≤ _; exact Nat.le_of_eq rfl) (hb hby at_95) (fun _ _ => ⟨rfl, rfl, (by decide : 16 + 0 ≤ _), (by decide : 405 + 0 ≤ _)⟩)
    dsimp only [Pt.U, Pt.locs, Pt.cells, Pt.slots] at X41 l41 y41 z41 st41 hQ41
    rw [l41, y41, z41] at X41
    obtain ⟨d2_41, n2_41, rfl, N41q, Kc41, G41_0, G41_1, G41_2, G41_3⟩ := hQ41
    have Zs41 : n0 ≤ T41.heap.size := Nat.le_trans Zs23 Kc41.1
    have hCR := hCR.trans (CHr.keep Kc41 (sfS own_safe0 sf0) hCR.1)
    have hk := Nat.le_trans hk Kc41.1
    have F42 := own_bkeep F24 Kc41 (allS g_ra all0) (allS (own_nsE F25) all0)
    have F43 := F29.keep Kc41
    have F44 := F30.keep Kc41 (ninS (Ne.symm ne_ra_la) nin0)
    have F45 := F31.keep Kc41 (ninS (Ne.symm ne_ra_la) nin0)
    have F46 := F32.keep Kc41 (ninS (Ne.symm ne_ra_la) nin0)
    have F47 := F33.keep Kc41
    have F48 := F34.keep Kc41 (ninS (Ne.symm ne_ra_rb) nin0)
    have F49 := F35.keep Kc41 (ninS (Ne.symm ne_ra_rb) nin0)
    have F50 := F36.keep Kc41 (ninS (Ne.symm ne_ra_rb) nin0)
    have F51 := F37.keep Kc41
    have F52 := F38.keep Kc41 (ninS (Ne.symm ne_ra_lb) nin0)
    have F53 := F39.keep Kc41 (ninS (Ne.symm ne_ra_lb) nin0)
    have F54 := F40.keep Kc41 (ninS (Ne.symm ne_ra_lb) nin0)
    have F55 := G23_0.keep Kc41
    have N41 := Fr.app N23 N41q
    have k57 : ∀ t, Steps p.tables e below (T41.setTop (mkF m 98 #[.val (.int p0_0), .val (.int p0_1), .val (.int p0_2), .val (.int p0_3), .val (.int zqA), .val (.int zqB), .val (.int zqC), .val (.int zqM), .val (.ref ra), .val (.ref rb), .unset, .unset] [])) t → Steps p.tables e below (s₁.setTop (mkF m 78 #[.val (.int p0_0), .val (.int p0_1), .val (.int p0_2), .val (.int p0_3), .val (.int zqA), .val (.int zqB), .val (.int zqC), .val (.int zqM), .val (.ref ra), .val (.ref rb), .unset, .unset] [])) t := by
      intro t k
      refine pre0 t ?_
      refine XS.iload X0.here hx rfl (hb hby at_78) rfl ?_
      refine XS.iconst X0.here hx rfl (hb hby at_80) ?_
      refine XS.icmpNo X0.here hx rfl (hb hby at_81) rfl (tlt (own_gS _ hg).1).2.1 ?_
      refine XS.aload X0.here hx rfl (hb hby at_84) rfl rfl ?_
      refine XS.iloadN X0.here hx rfl (hb hby at_86) rfl ?_
      refine st1 _ ?_
      refine XS.iload X1.here hx rfl (hb hby at_90) rfl ?_
      refine st23 _ ?_
      refine st41.trans ?_
      exact k
    obtain ⟨t_, o_, ss_, s2_, s3_, v_, L_, hv_, hq_, hf_⟩ := sgC0 hw hEL wS p0_0 p0_1 p0_2 p0_3 zqA zqB zqC zqM ra la d2_41 n2_41 ma rb lb db nb mb u_DEFAULTCAPACITY_EMPTY_ELEMENTDATA cl_u_DEFAULTCAPACITY_EMPTY_ELEMENTDATA u_DELETED u__SwitchMap_com_example_batchrake_batchrake_Outcome cl_u__SwitchMap_com_example_batchrake_batchrake_Outcome u_CONFLICT u_BAD_REQUEST u_STORE_ERROR u_NOT_FOUND cs mr T41.heap n0 Zs41 F42 G41_0 G41_1 G41_2 G41_3 F43 F44 F45 F46 F47 F48 F49 F50 F51 F52 F53 F54 hcs hmir ne_ra_la ne_ra_rb ne_ra_lb ne_la_rb ne_la_lb ne_rb_lb hd_zqC ⟨hA, (own_gS _ hg).2⟩ g_ra g_la g_rb g_lb (X41.more (by decide) (by decide)) hx hZ hby hml hown hret (by first | assumption | exact BodyLoose.notSynchronized (by assumption) | exact Body.notSynchronized (by assumption)) rfl N41 hh hS hk hCR
    exact ⟨t_, o_, k57 _ ss_, s2_, s3_, v_, L_, hv_, hq_, hf_⟩
  · skip
    obtain ⟨_, _, ⟨T58, L58, k58, n58⟩, -, X58, ⟨Lc58, hQ58, l58, y58, z58⟩, st58⟩ := Jvm.LawKit.callS X0 hx (y := (⟨"com/example/batchrake/batchrake/DeleteReportHasFailuresPinLaw", "name", "(I)Ljava/lang/String;"⟩ : MethodName)) hown (mvT hZ (wd hw 51 rfl)) (mvT hZ (wd hw 52 rfl)) (mvT hZ (wd hw 53 rfl)) (mvT hZ (wd hw 54 rfl)) (by decide) (backOf (W := 1) (rm10 l Z a0 hw [] p0_1 cs h0 n0 Z0 (own_b20 B0) hcs) hZ (wd hw 54 rfl) (wd hw 53 rfl) (by decide) (by decide)) (g := (mkF m 87 #[.val (.int p0_0), .val (.int p0_1), .val (.int p0_2), .val (.int p0_3), .val (.int zqA), .val (.int zqB), .val (.int zqC), .val (.int zqM), .val (.ref ra), .val (.ref rb), .unset, .unset] [(.int p0_1), (.ref ra)])) rfl (by rw [hml]; rfl) (argsL := [(.int p0_1)]) (rest := [(.ref ra)]) (lenOf pd_19 rfl) rfl (by show 2 * 0 + _ ≤ _; exact Nat.le_of_eq rfl) (hb hby at_87) (fun _ _ => ⟨rfl, e0, (by decide : 14 + 2 ≤ _), (by decide : 400 + 5 ≤ _)⟩)
    dsimp only [Pt.U, Pt.locs, Pt.cells, Pt.slots] at X58 l58 y58 z58 st58 hQ58
    rw [l58, y58, z58] at X58
    obtain ⟨sx_58, rfl, N58q, Kc58, ggsx_58, szsx_58⟩ := hQ58
    have ne59 : ra ≠ sx_58 := Nat.ne_of_lt (Nat.lt_of_lt_of_le AEr.lt szsx_58)
    have ne60 : la ≠ sx_58 := Nat.ne_of_lt (Nat.lt_of_lt_of_le AEl.lt szsx_58)
    have ne61 : rb ≠ sx_58 := Nat.ne_of_lt (Nat.lt_of_lt_of_le BEr.lt szsx_58)
    have ne62 : lb ≠ sx_58 := Nat.ne_of_lt (Nat.lt_of_lt_of_le BEl.lt szsx_58)
    have Zs58 : n0 ≤ T58.heap.size := Nat.le_trans Z0 Kc58.1
    have hCR := hCR.trans (CHr.keep Kc58 sf0 hCR.1)
    have hk := Nat.le_trans hk Kc58.1
    have F63 := own_bkeep B0 Kc58 all0 all0
    have F64 := AEr.keep Kc58
    have F65 := AFf.keep Kc58 nin0
    have F66 := AFd.keep Kc58 nin0
    have F67 := AFn.keep Kc58 nin0
    have F68 := AEl.keep Kc58
    have F69 := AFm.keep Kc58 nin0
    have F70 := AFz.keep Kc58 nin0
    have F71 := AFe.keep Kc58 nin0
    have F72 := BEr.keep Kc58
    have F73 := BFf.keep Kc58 nin0
    have F74 := BFd.keep Kc58 nin0
    have F75 := BFn.keep Kc58 nin0
    have F76 := BEl.keep Kc58
    have F77 := BFm.keep Kc58 nin0
    have F78 := BFz.keep Kc58 nin0
    have F79 := BFe.keep Kc58 nin0
    have N58 := Fr.app N0 N58q
    obtain ⟨_, _, ⟨T80, L80, k80, n80⟩, -, X80, ⟨Lc80, hQ80, l80, y80, z80⟩, st80⟩ := Jvm.LawKit.callS X58 hx (y := (⟨"com/example/batchrake/batchrake/DeleteReportHasFailuresPinLaw", "pick", "(I)Lcom/example/batchrake/batchrake/Outcome;"⟩ : MethodName)) hown (mvT hZ (wd hw 74 rfl)) (mvT hZ (wd hw 75 rfl)) (mvT hZ (wd hw 53 rfl)) (mvT hZ (wd hw 76 rfl)) (by decide) (backOf (W := 2) (rm12 l Z a0 hw [] zqB u_BAD_REQUEST u_CONFLICT u_STORE_ERROR T58.heap n0 Zs58 (own_b9 F63) (own_b10 F63) (own_b11 F63) (own_b6 F63) (own_b7 F63) (own_b8 F63) (own_b12 F63) (own_b13 F63) (own_b14 F63) hg) hZ (wd hw 76 rfl) (wd hw 53 rfl) (by decide) (by decide)) (g := (mkF m 92 #[.val (.int p0_0), .val (.int p0_1), .val (.int p0_2), .val (.int p0_3), .val (.int zqA), .val (.int zqB), .val (.int zqC), .val (.int zqM), .val (.ref ra), .val (.ref rb), .unset, .unset] [(.int zqB), (.ref sx_58), (.ref ra)])) rfl (by rw [hml]; rfl) (argsL := [(.int zqB)]) (rest := [(.ref sx_58), (.ref ra)]) (lenOf pd_20 rfl) rfl (by show 2 * 0 + _ ≤ _; exact Nat.le_of_eq rfl) (hb hby at_92) (fun _ _ => ⟨rfl, rfl, (by decide : 16 + 0 ≤ _), (by decide : 405 + 0 ≤ _)⟩)
    dsimp only [Pt.U, Pt.locs, Pt.cells, Pt.slots] at X80 l80 y80 z80 st80 hQ80
    rw [l80, y80, z80] at X80
    obtain ⟨ux_80, rfl, N80q, Kc80, G80_0, G80_1⟩ := hQ80
    have Zs80 : n0 ≤ T80.heap.size := Nat.le_trans Zs58 Kc80.1
    have hCR := hCR.trans (CHr.keep Kc80 sf0 hCR.1)
    have hk := Nat.le_trans hk Kc80.1
    have F81 := own_bkeep F63 Kc80 all0 all0
    have F82 := F64.keep Kc80
    have F83 := F65.keep Kc80 nin0
    have F84 := F66.keep Kc80 nin0
    have F85 := F67.keep Kc80 nin0
    have F86 := F68.keep Kc80
    have F87 := F69.keep Kc80 nin0
    have F88 := F70.keep Kc80 nin0
    have F89 := F71.keep Kc80 nin0
    have F90 := F72.keep Kc80
    have F91 := F73.keep Kc80 nin0
    have F92 := F74.keep Kc80 nin0
    have F93 := F75.keep Kc80 nin0
    have F94 := F76.keep Kc80
    have F95 := F77.keep Kc80 nin0
    have F96 := F78.keep Kc80 nin0
    have F97 := F79.keep Kc80 nin0
    have N80 := Fr.app N58 N80q
    obtain ⟨cq98, kq98, q98a, q98b, q98c⟩ := isOf hZ rfl F82
    obtain ⟨_, _, ⟨T98, L98, k98, n98⟩, -, X98, ⟨Lc98, hQ98, l98, y98, z98⟩, st98⟩ := X80.virtualBack hx (y := (⟨"com/example/batchrake/batchrake/DeleteReport", "add", "(Ljava/lang/String;Lcom/example/batchrake/batchrake/Outcome;)V"⟩ : MethodName)) (z := (⟨"com/example/batchrake/batchrake/DeleteReport", "add", "(Ljava/lang/String;Lcom/example/batchrake/batchrake/Outcome;)V"⟩ : MethodName)) hown (mvT hZ (wd hw 80 rfl)) (mvT hZ (wd hw 81 rfl)) (notFace_of_selects (args := #[]) (mvT hZ (wd hw 83 rfl))) (mvT hZ (wd hw 83 rfl)) (mvT hZ (wd hw 82 rfl)) (by decide) (backOf (W := 0) (rm40 l Z a0 hw [] ra sx_58 ux_80 u__SwitchMap_com_example_batchrake_batchrake_Outcome cl_u__SwitchMap_com_example_batchrake_batchrake_Outcome la zqB ma u_DEFAULTCAPACITY_EMPTY_ELEMENTDATA cl_u_DEFAULTCAPACITY_EMPTY_ELEMENTDATA T80.heap n0 Zs80 (own_b4 F81) (own_b19 F81) F82 F83 G80_0 G80_1 F86 F87 F88 F89 (own_b0 F81) (own_b18 F81) hg (Nat.ne_of_lt (Nat.lt_of_lt_of_le (own_b21 F81) g_la)) g_la) hZ (wd hw 84 rfl) (wd hw 3 rfl) (by decide) (by decide)) q98a q98c (g := (mkF m 95 #[.val (.int p0_0), .val (.int p0_1), .val (.int p0_2), .val (.int p0_3), .val (.int zqA), .val (.int zqB), .val (.int zqC), .val (.int zqM), .val (.ref ra), .val (.ref rb), .unset, .unset] [(.ref ux_80), (.ref sx_58), (.ref ra)])) rfl (by rw [hml]; rfl) (Steps.refl _) (argsL := [(.ref sx_58), (.ref ux_80)]) (rest := []) (lenOf pd_14 rfl) rfl (by show 2 * 0 + _ ≤ _; exact Nat.le_of_eq rfl) (hb hby at_95) (fun _ _ => ⟨rfl, rfl, (by decide : 16 + 2 ≤ _), (by decide : 405 + 12 ≤ _)⟩)
    dsimp only [Pt.U, Pt.locs, Pt.cells, Pt.slots] at X98 l98 y98 z98 st98 hQ98
    rw [l98, y98, z98] at X98
    obtain ⟨fx_98, en_98, kn_98, rfl, N98q, Kc98, ggfx_98, szfx_98, ggen_98, szen_98, G98_0, G98_1, G98_2, G98_3, G98_4, G98_5, G98_6, P98_0⟩ := hQ98
    have ne99 : ra ≠ fx_98 := Nat.ne_of_lt (Nat.lt_of_lt_of_le F82.lt szfx_98)
    have ne100 : la ≠ fx_98 := Nat.ne_of_lt (Nat.lt_of_lt_of_le F86.lt szfx_98)
    have ne101 : rb ≠ fx_98 := Nat.ne_of_lt (Nat.lt_of_lt_of_le F90.lt szfx_98)
    have ne102 : lb ≠ fx_98 := Nat.ne_of_lt (Nat.lt_of_lt_of_le F94.lt szfx_98)
    have ne103 : ux_80 ≠ fx_98 := Nat.ne_of_lt (Nat.lt_of_lt_of_le G80_0.lt szfx_98)
    have ne104 : ra ≠ en_98 := Nat.ne_of_lt (Nat.lt_of_lt_of_le F82.lt szen_98)
    have ne105 : la ≠ en_98 := Nat.ne_of_lt (Nat.lt_of_lt_of_le F86.lt szen_98)
    have ne106 : rb ≠ en_98 := Nat.ne_of_lt (Nat.lt_of_lt_of_le F90.lt szen_98)
    have ne107 : lb ≠ en_98 := Nat.ne_of_lt (Nat.lt_of_lt_of_le F94.lt szen_98)
    have ne108 : ux_80 ≠ en_98 := Nat.ne_of_lt (Nat.lt_of_lt_of_le G80_0.lt szen_98)
    have Zs98 : n0 ≤ T98.heap.size := Nat.le_trans Zs80 Kc98.1
    have hCR := hCR.trans (CHr.keep Kc98 (sfS own_safe0 sf0) hCR.1)
    have hk := Nat.le_trans hk Kc98.1
    have F109 := own_bkeep F81 Kc98 (allS g_la all0) (allS (own_nsE F86) all0)
    have F110 := F82.keep Kc98
    have F111 := F83.keep Kc98 (ninS ne_ra_la nin0)
    have F112 := F84.keep Kc98 (ninS ne_ra_la nin0)
    have F113 := F85.keep Kc98 (ninS ne_ra_la nin0)
    have F114 := F90.keep Kc98
    have F115 := F91.keep Kc98 (ninS (Ne.symm ne_la_rb) nin0)
    have F116 := F92.keep Kc98 (ninS (Ne.symm ne_la_rb) nin0)
    have F117 := F93.keep Kc98 (ninS (Ne.symm ne_la_rb) nin0)
    have F118 := F94.keep Kc98
    have F119 := F95.keep Kc98 (ninS (Ne.symm ne_la_lb) nin0)
    have F120 := F96.keep Kc98 (ninS (Ne.symm ne_la_lb) nin0)
    have F121 := F97.keep Kc98 (ninS (Ne.symm ne_la_lb) nin0)
    have F122 := G80_0.keep Kc98
    have N98 := Fr.app N80 N98q
    have k124 : ∀ t, Steps p.tables e below (T98.setTop (mkF m 98 #[.val (.int p0_0), .val (.int p0_1), .val (.int p0_2), .val (.int p0_3), .val (.int zqA), .val (.int zqB), .val (.int zqC), .val (.int zqM), .val (.ref ra), .val (.ref rb), .unset, .unset] [])) t → Steps p.tables e below (s₁.setTop (mkF m 78 #[.val (.int p0_0), .val (.int p0_1), .val (.int p0_2), .val (.int p0_3), .val (.int zqA), .val (.int zqB), .val (.int zqC), .val (.int zqM), .val (.ref ra), .val (.ref rb), .unset, .unset] [])) t := by
      intro t k
      refine pre0 t ?_
      refine XS.iload X0.here hx rfl (hb hby at_78) rfl ?_
      refine XS.iconst X0.here hx rfl (hb hby at_80) ?_
      refine XS.icmpNo X0.here hx rfl (hb hby at_81) rfl (tlt (own_gF _ hg).1).2.1 ?_
      refine XS.aload X0.here hx rfl (hb hby at_84) rfl rfl ?_
      refine XS.iloadN X0.here hx rfl (hb hby at_86) rfl ?_
      refine st58 _ ?_
      refine XS.iload X58.here hx rfl (hb hby at_90) rfl ?_
      refine st80 _ ?_
      refine st98.trans ?_
      exact k
    obtain ⟨t_, o_, ss_, s2_, s3_, v_, L_, hv_, hq_, hf_⟩ := sgCP hw hEL wS p0_0 p0_1 p0_2 p0_3 zqA zqB zqC zqM ra la da na (ma + (1 : Int32)) en_98 kn_98 (1 : Int32) ([(.ref fx_98), .null, .null, .null, .null, .null, .null, .null, .null, .null]) rb lb db nb mb u_DEFAULTCAPACITY_EMPTY_ELEMENTDATA cl_u_DEFAULTCAPACITY_EMPTY_ELEMENTDATA u_DELETED u__SwitchMap_com_example_batchrake_batchrake_Outcome cl_u__SwitchMap_com_example_batchrake_batchrake_Outcome u_CONFLICT u_BAD_REQUEST u_STORE_ERROR u_NOT_FOUND cs mr T98.heap n0 Zs98 F109 F110 F111 F112 F113 G98_0 G98_1 G98_2 G98_3 G98_4 G98_5 F114 F115 F116 F117 F118 F119 F120 F121 hcs hmir ne_ra_la ne104 ne_ra_rb ne_ra_lb ne105 ne_la_rb ne_la_lb (Ne.symm ne106) (Ne.symm ne107) ne_rb_lb P98_0 (Or.inl rfl) rfl hd_zqC (fun q => (own_gF _ hg).2 q.2) g_ra g_la ggen_98 g_rb g_lb (X98.more (by decide) (by decide)) hx hZ hby hml hown hret (by first | assumption | exact BodyLoose.notSynchronized (by assumption) | exact Body.notSynchronized (by assumption)) rfl N98 hh hS hk hCR
    exact ⟨t_, o_, k124 _ ss_, s2_, s3_, v_, L_, hv_, hq_, hf_⟩
  · skip
    have k125 : ∀ t, Steps p.tables e below (s₁.setTop (mkF m 98 #[.val (.int p0_0), .val (.int p0_1), .val (.int p0_2), .val (.int p0_3), .val (.int zqA), .val (.int zqB), .val (.int zqC), .val (.int zqM), .val (.ref ra), .val (.ref rb), .unset, .unset] [])) t → Steps p.tables e below (s₁.setTop (mkF m 78 #[.val (.int p0_0), .val (.int p0_1), .val (.int p0_2), .val (.int p0_3), .val (.int zqA), .val (.int zqB), .val (.int zqC), .val (.int zqM), .val (.ref ra), .val (.ref rb), .unset, .unset] [])) t := by
      intro t k
      refine pre0 t ?_
      refine XS.iload X0.here hx rfl (hb hby at_78) rfl ?_
      refine XS.iconst X0.here hx rfl (hb hby at_80) ?_
      refine XS.icmpYes X0.here hx rfl (pc0 := 81) (pc' := 98) rfl (hb hby at_81) rfl (flt (own_g5 _ hg).1).2.1 (by decide) (by decide) ?_
      exact k
    obtain ⟨t_, o_, ss_, s2_, s3_, v_, L_, hv_, hq_, hf_⟩ := sgC0 hw hEL wS p0_0 p0_1 p0_2 p0_3 zqA zqB zqC zqM ra la da na ma rb lb db nb mb u_DEFAULTCAPACITY_EMPTY_ELEMENTDATA cl_u_DEFAULTCAPACITY_EMPTY_ELEMENTDATA u_DELETED u__SwitchMap_com_example_batchrake_batchrake_Outcome cl_u__SwitchMap_com_example_batchrake_batchrake_Outcome u_CONFLICT u_BAD_REQUEST u_STORE_ERROR u_NOT_FOUND cs mr h0 n0 Z0 B0 AEr AFf AFd AFn AEl AFm AFz AFe BEr BFf BFd BFn BEl BFm BFz BFe hcs hmir ne_ra_la ne_ra_rb ne_ra_lb ne_la_rb ne_la_lb ne_rb_lb hd_zqC ⟨hA, (own_g5 _ hg).2⟩ g_ra g_la g_rb g_lb (X0.more (by decide) (by decide)) hx hZ hby hml hown hret (by first | assumption | exact BodyLoose.notSynchronized (by assumption) | exact Body.notSynchronized (by assumption)) e0 N0 hh hS hk hCR
    exact ⟨t_, o_, k125 _ ss_, s2_, s3_, v_, L_, hv_, hq_, hf_⟩
set_option maxRecDepth 65536 in
set_option maxHeartbeats 40000000 in
theorem sgB1 {p : Program} {l : Launch} {e : Env} {s : State} {m : MethodId} {args : Array Value} {below : List Frame} {meth : Method} {c : Code} {s₁ : State} {locs : List Loc} {vm0 : Vm} {k0 : Nat} {hs0 : Heap} {Z : State} {a0 : Array Value} (hw : ∀ d ∈ tables_1, d.before a0 Z = true) (hEL : EW Z a0 consts_1) (wS : ∀ a ∈ Bundle.stringAtoms, a.before a0 Z = true) (p0_0 : Int32) (p0_1 : Int32) (p0_2 : Int32) (p0_3 : Int32) (zqA : Int32) (zqB : Int32) (zqC : Int32) (zqM : Int32) (ra : Addr) (la : Addr) (da : Int32) (na : Int32) (ma : Int32) (ea : Addr) (ka : ClassId) (ax0 : Addr) (rb : Addr) (lb : Addr) (db : Int32) (nb : Int32) (mb : Int32) (u_DEFAULTCAPACITY_EMPTY_ELEMENTDATA : Addr) (cl_u_DEFAULTCAPACITY_EMPTY_ELEMENTDATA : Cell) (u_DELETED : Addr) (u__SwitchMap_com_example_batchrake_batchrake_Outcome : Addr) (cl_u__SwitchMap_com_example_batchrake_batchrake_Outcome : Cell) (u_CONFLICT : Addr) (u_BAD_REQUEST : Addr) (u_STORE_ERROR : Addr) (u_NOT_FOUND : Addr) (cs : Int32) (mr : Addr) (h0 : Heap) (n0 : Nat) (Z0 : n0 ≤ h0.size) (B0 : own_base Z n0 h0 u_DEFAULTCAPACITY_EMPTY_ELEMENTDATA cl_u_DEFAULTCAPACITY_EMPTY_ELEMENTDATA u_DELETED u__SwitchMap_com_example_batchrake_batchrake_Outcome cl_u__SwitchMap_com_example_batchrake_batchrake_Outcome u_CONFLICT u_BAD_REQUEST u_STORE_ERROR u_NOT_FOUND cs) (AEr : Exa Z h0 ra "com/example/batchrake/batchrake/DeleteReport") (AFf : Fld Z h0 ra "com/example/batchrake/batchrake/DeleteReport" "failures" "Ljava/util/List;" (.ref la)) (AFd : Fld Z h0 ra "com/example/batchrake/batchrake/DeleteReport" "deleted" "I" (.int da)) (AFn : Fld Z h0 ra "com/example/batchrake/batchrake/DeleteReport" "notFound" "I" (.int na)) (AEl : Exa Z h0 la "java/util/ArrayList") (AFm : Fld Z h0 la "java/util/AbstractList" "modCount" "I" (.int ma)) (AFz : Fld Z h0 la "java/util/ArrayList" "size" "I" (.int (1 : Int32))) (AFe : Fld Z h0 la "java/util/ArrayList" "elementData" "[Ljava/lang/Object;" (.ref ea)) (AVe : Arv Z h0 ea ka (.object "java/lang/Object") (10 : Int32) [(.ref ax0), .null, .null, .null, .null, .null, .null, .null, .null, .null] .null) (AEd : Exa Z h0 ea "[Ljava/lang/Object;") (BEr : Exa Z h0 rb "com/example/batchrake/batchrake/DeleteReport") (BFf : Fld Z h0 rb "com/example/batchrake/batchrake/DeleteReport" "failures" "Ljava/util/List;" (.ref lb)) (BFd : Fld Z h0 rb "com/example/batchrake/batchrake/DeleteReport" "deleted" "I" (.int db)) (BFn : Fld Z h0 rb "com/example/batchrake/batchrake/DeleteReport" "notFound" "I" (.int nb)) (BEl : Exa Z h0 lb "java/util/ArrayList") (BFm : Fld Z h0 lb "java/util/AbstractList" "modCount" "I" (.int mb)) (BFz : Fld Z h0 lb "java/util/ArrayList" "size" "I" (.int (0 : Int32))) (BFe : Fld Z h0 lb "java/util/ArrayList" "elementData" "[Ljava/lang/Object;" (.ref u_DEFAULTCAPACITY_EMPTY_ELEMENTDATA)) (hcs : ¬ (cs = (0 : Int32))) (hmir : Mir Z "[Ljava/lang/Object;" mr) (ne_ra_la : ra ≠ la) (ne_ra_ea : ra ≠ ea) (ne_ra_rb : ra ≠ rb) (ne_ra_lb : ra ≠ lb) (ne_la_ea : la ≠ ea) (ne_la_rb : la ≠ rb) (ne_la_lb : la ≠ lb) (ne_ea_rb : ea ≠ rb) (ne_ea_lb : ea ≠ lb) (ne_rb_lb : rb ≠ lb) (hovA : Ovr Z ka "java/lang/Object") (hd_zqB : (zqB = (0 : Int32) ∨ zqB = (1 : Int32)) ∨ (zqB = (2 : Int32) ∨ zqB = (3 : Int32) ∨ zqB = (4 : Int32)) ∨ zqB = (5 : Int32)) (hd_zqC : (zqC = (0 : Int32) ∨ zqC = (1 : Int32)) ∨ (zqC = (2 : Int32) ∨ zqC = (3 : Int32) ∨ zqC = (4 : Int32)) ∨ zqC = (5 : Int32)) (hA : ¬ (own_fails zqA = (0 : Int32))) (g_ra : n0 ≤ ra) (g_la : n0 ≤ la) (g_ea : n0 ≤ ea) (g_rb : n0 ≤ rb) (g_lb : n0 ≤ lb)
    (X0 : Stand p l e room_1 (s.setVm vm0) m args below meth c s₁ locs 14 400) (hx : p.tables.exec = Jvm.exec) (hZ : Z.Warmed39 (s.setVm vm0).vm) (hby : c.code = code) (hml : c.maxLocals = 12) (hown : (s.setVm vm0).vm.findClass "com/example/batchrake/batchrake/DeleteReportHasFailuresPinLaw" = some m.cls) (hret : meth.sig.returnType = some .boolean) (hlk : meth.locks = false) (e0 : s₁.heap = h0) (N0 : Fr n0 locs) (hh : s.heap = hs0) (hS : s.Since vm0 k0) (hk : k0 ≤ h0.size) (hCR : CHr Z consts_1 s.vm hs0 vm0 h0) :
    ∃ t o, Steps p.tables e below (s₁.setTop (mkF m 78 #[.val (.int p0_0), .val (.int p0_1), .val (.int p0_2), .val (.int p0_3), .val (.int zqA), .val (.int zqB), .val (.int zqC), .val (.int zqM), .val (.ref ra), .val (.ref rb), .unset, .unset] [])) t ∧ t.status = .running ∧ Ended t below o ∧ ∃ v L, o = .returned v ∧ (v = some (.int (1 : Int32)) ∧ Fr n0 L) ∧ CHr Z consts_1 s.vm s.heap t.vm t.heap ∧ ReturnedEndW s o t L 48 1216 := by
  have pre0 : ∀ t, Steps p.tables e below (s₁.setTop (mkF m 78 #[.val (.int p0_0), .val (.int p0_1), .val (.int p0_2), .val (.int p0_3), .val (.int zqA), .val (.int zqB), .val (.int zqC), .val (.int zqM), .val (.ref ra), .val (.ref rb), .unset, .unset] [])) t → Steps p.tables e below (s₁.setTop (mkF m 78 #[.val (.int p0_0), .val (.int p0_1), .val (.int p0_2), .val (.int p0_3), .val (.int zqA), .val (.int zqB), .val (.int zqC), .val (.int zqM), .val (.ref ra), .val (.ref rb), .unset, .unset] [])) t := fun t k => k
  rcases hd_zqB with hg | hg | hg
  · skip
    obtain ⟨_, _, ⟨T1, L1, k1, n1⟩, -, X1, ⟨Lc1, hQ1, l1, y1, z1⟩, st1⟩ := Jvm.LawKit.callS X0 hx (y := (⟨"com/example/batchrake/batchrake/DeleteReportHasFailuresPinLaw", "name", "(I)Ljava/lang/String;"⟩ : MethodName)) hown (mvT hZ (wd hw 51 rfl)) (mvT hZ (wd hw 52 rfl)) (mvT hZ (wd hw 53 rfl)) (mvT hZ (wd hw 54 rfl)) (by decide) (backOf (W := 1) (rm10 l Z a0 hw [] p0_1 cs h0 n0 Z0 (own_b20 B0) hcs) hZ (wd hw 54 rfl) (wd hw 53 rfl) (by decide) (by decide)) (g := (mkF m 87 #[.val (.int p0_0), .val (.int p0_1), .val (.int p0_2), .val (.int p0_3), .val (.int zqA), .val (.int zqB), .val (.int zqC), .val (.int zqM), .val (.ref ra), .val (.ref rb), .unset, .unset] [(.int p0_1), (.ref ra)])) rfl (by rw [hml]; rfl) (argsL := [(.int p0_1)]) (rest := [(.ref ra)]) (lenOf pd_19 rfl) rfl (by show 2 * 0 + _ ≤ _; exact Nat.le_of_eq rfl) (hb hby at_87) (fun _ _ => ⟨rfl, e0, (by decide : 14 + 2 ≤ _), (by decide : 400 + 5 ≤ _)⟩)
    dsimp only [Pt.U, Pt.locs, Pt.cells, Pt.slots] at X1 l1 y1 z1 st1 hQ1
    rw [l1, y1, z1] at X1
    obtain ⟨sx_1, rfl, N1q, Kc1, ggsx_1, szsx_1⟩ := hQ1
    have ne2 : ra ≠ sx_1 := Nat.ne_of_lt (Nat.lt_of_lt_of_le AEr.lt szsx_1)
    have ne3 : la ≠ sx_1 := Nat.ne_of_lt (Nat.lt_of_lt_of_le AEl.lt szsx_1)
    have ne4 : ea ≠ sx_1 := Nat.ne_of_lt (Nat.lt_of_lt_of_le AVe.lt szsx_1)
    have ne5 : rb ≠ sx_1 := Nat.ne_of_lt (Nat.lt_of_lt_of_le BEr.lt szsx_1)
    have ne6 : lb ≠ sx_1 := Nat.ne_of_lt (Nat.lt_of_lt_of_le BEl.lt szsx_1)
    have Zs1 : n0 ≤ T1.heap.size := Nat.le_trans Z0 Kc1.1
    have hCR := hCR.trans (CHr.keep Kc1 sf0 hCR.1)
    have hk := Nat.le_trans hk Kc1.1
    have F7 := own_bkeep B0 Kc1 all0 all0
    have F8 := AEr.keep Kc1
    have F9 := AFf.keep Kc1 nin0
    have F10 := AFd.keep Kc1 nin0
    have F11 := AFn.keep Kc1 nin0
    have F12 := AEl.keep Kc1
    have F13 := AFm.keep Kc1 nin0
    have F14 := AFz.keep Kc1 nin0
    have F15 := AFe.keep Kc1 nin0
    have F16 := AVe.keep Kc1 nin0
    have F17 := AEd.keep Kc1
    have F18 := BEr.keep Kc1
    have F19 := BFf.keep Kc1 nin0
    have F20 := BFd.keep Kc1 nin0
    have F21 := BFn.keep Kc1 nin0
    have F22 := BEl.keep Kc1
    have F23 := BFm.keep Kc1 nin0
    have F24 := BFz.keep Kc1 nin0
    have F25 := BFe.keep Kc1 nin0
    have N1 := Fr.app N0 N1q
    obtain ⟨_, _, ⟨T26, L26, k26, n26⟩, -, X26, ⟨Lc26, hQ26, l26, y26, z26⟩, st26⟩ := Jvm.LawKit.callS X1 hx (y := (⟨"com/example/batchrake/batchrake/DeleteReportHasFailuresPinLaw", "pick", "(I)Lcom/example/batchrake/batchrake/Outcome;"⟩ : MethodName)) hown (mvT hZ (wd hw 74 rfl)) (mvT hZ (wd hw 75 rfl)) (mvT hZ (wd hw 53 rfl)) (mvT hZ (wd hw 76 rfl)) (by decide) (backOf (W := 2) (rm11 l Z a0 hw [] zqB u_DELETED u_NOT_FOUND T1.heap n0 Zs1 (own_b2 F7) (own_b3 F7) (own_b5 F7) (own_b15 F7) (own_b16 F7) (own_b17 F7) hg) hZ (wd hw 76 rfl) (wd hw 53 rfl) (by decide) (by decide)) (g := (mkF m 92 #[.val (.int p0_0), .val (.int p0_1), .val (.int p0_2), .val (.int p0_3), .val (.int zqA), .val (.int zqB), .val (.int zqC), .val (.int zqM), .val (.ref ra), .val (.ref rb), .unset, .unset] [(.int zqB), (.ref sx_1), (.ref ra)])) rfl (by rw [hml]; rfl) (argsL := [(.int zqB)]) (rest := [(.ref sx_1), (.ref ra)]) (lenOf pd_20 rfl) rfl (by show 2 * 0 + _ ≤ _; exact Nat.le_of_eq rfl) (hb hby at_92) (fun _ _ => ⟨rfl, rfl, (by decide : 16 + 0 ≤ _), (by decide : 405 + 0 ≤ _)⟩)
    dsimp only [Pt.U, Pt.locs, Pt.cells, Pt.slots] at X26 l26 y26 z26 st26 hQ26
    rw [l26, y26, z26] at X26
    obtain ⟨ux_26, rfl, N26q, Kc26, G26_0, G26_1⟩ := hQ26
    have Zs26 : n0 ≤ T26.heap.size := Nat.le_trans Zs1 Kc26.1
    have hCR := hCR.trans (CHr.keep Kc26 sf0 hCR.1)
    have hk := Nat.le_trans hk Kc26.1
    have F27 := own_bkeep F7 Kc26 all0 all0
    have F28 := F8.keep Kc26
    have F29 := F9.keep Kc26 nin0
    have F30 := F10.keep Kc26 nin0
    have F31 := F11.keep Kc26 nin0
    have F32 := F12.keep Kc26
    have F33 := F13.keep Kc26 nin0
    have F34 := F14.keep Kc26 nin0
    have F35 := F15.keep Kc26 nin0
    have F36 := F16.keep Kc26 nin0
    have F37 := F17.keep Kc26
    have F38 := F18.keep Kc26
    have F39 := F19.keep Kc26 nin0
    have F40 := F20.keep Kc26 nin0
    have F41 := F21.keep Kc26 nin0
    have F42 := F22.keep Kc26
    have F43 := F23.keep Kc26 nin0
    have F44 := F24.keep Kc26 nin0
    have F45 := F25.keep Kc26 nin0
    have N26 := Fr.app N1 N26q
    obtain ⟨cq46, kq46, q46a, q46b, q46c⟩ := isOf hZ rfl F28
    obtain ⟨_, _, ⟨T46, L46, k46, n46⟩, -, X46, ⟨Lc46, hQ46, l46, y46, z46⟩, st46⟩ := X26.virtualBack hx (y := (⟨"com/example/batchrake/batchrake/DeleteReport", "add", "(Ljava/lang/String;Lcom/example/batchrake/batchrake/Outcome;)V"⟩ : MethodName)) (z := (⟨"com/example/batchrake/batchrake/DeleteReport", "add", "(Ljava/lang/String;Lcom/example/batchrake/batchrake/Outcome;)V"⟩ : MethodName)) hown (mvT hZ (wd hw 80 rfl)) (mvT hZ (wd hw 81 rfl)) (notFace_of_selects (args := #[]) (mvT hZ (wd hw 83 rfl))) (mvT hZ (wd hw 83 rfl)) (mvT hZ (wd hw 82 rfl)) (by decide) (backOf (W := 0) (rm39 l Z a0 hw [] ra sx_1 ux_26 u__SwitchMap_com_example_batchrake_batchrake_Outcome cl_u__SwitchMap_com_example_batchrake_batchrake_Outcome da na la zqB T26.heap n0 Zs26 (own_b4 F27) (own_b19 F27) F28 F29 F30 F31 G26_0 G26_1 hg g_ra) hZ (wd hw 84 rfl) (wd hw 3 rfl) (by decide) (by decide)) q46a q46c (g := (mkF m 95 #[.val (.int p0_0), .val (.int p0_1), .val (.int p0_2), .val (.int p0_3), .val (.int zqA), .val (.int zqB), .val (.int zqC), .val (.int zqM), .val (.ref ra), .val (.ref rb), .unset, .unset] [(.ref ux_26), (.ref sx_1), (.ref ra)])) rfl (by rw [hml]; rfl) (Steps.refl _) (argsL := [(.ref sx_1), (.ref ux_26)]) (rest := []) (lenOf pd_14 rfl) rfl (by show 2 * 0 + _ ≤ _; exact Nat.le_of_eq rfl) (hb hby at_95) (fun _ _ => ⟨rfl, rfl, (by decide : 16 + 0 ≤ _), (by decide : 405 + 0 ≤ _)⟩)
    dsimp only [Pt.U, Pt.locs, Pt.cells, Pt.slots] at X46 l46 y46 z46 st46 hQ46
    rw [l46, y46, z46] at X46
    obtain ⟨d2_46, n2_46, rfl, N46q, Kc46, G46_0, G46_1, G46_2, G46_3⟩ := hQ46
    have Zs46 : n0 ≤ T46.heap.size := Nat.le_trans Zs26 Kc46.1
    have hCR := hCR.trans (CHr.keep Kc46 (sfS own_safe0 sf0) hCR.1)
    have hk := Nat.le_trans hk Kc46.1
    have F47 := own_bkeep F27 Kc46 (allS g_ra all0) (allS (own_nsE F28) all0)
    have F48 := F32.keep Kc46
    have F49 := F33.keep Kc46 (ninS (Ne.symm ne_ra_la) nin0)
    have F50 := F34.keep Kc46 (ninS (Ne.symm ne_ra_la) nin0)
    have F51 := F35.keep Kc46 (ninS (Ne.symm ne_ra_la) nin0)
    have F52 := F36.keep Kc46 (ninS (Ne.symm ne_ra_ea) nin0)
    have F53 := F37.keep Kc46
    have F54 := F38.keep Kc46
    have F55 := F39.keep Kc46 (ninS (Ne.symm ne_ra_rb) nin0)
    have F56 := F40.keep Kc46 (ninS (Ne.symm ne_ra_rb) nin0)
    have F57 := F41.keep Kc46 (ninS (Ne.symm ne_ra_rb) nin0)
    have F58 := F42.keep Kc46
    have F59 := F43.keep Kc46 (ninS (Ne.symm ne_ra_lb) nin0)
    have F60 := F44.keep Kc46 (ninS (Ne.symm ne_ra_lb) nin0)
    have F61 := F45.keep Kc46 (ninS (Ne.symm ne_ra_lb) nin0)
    have F62 := G26_0.keep Kc46
    have N46 := Fr.app N26 N46q
    have k64 : ∀ t, Steps p.tables e below (T46.setTop (mkF m 98 #[.val (.int p0_0), .val (.int p0_1), .val (.int p0_2), .val (.int p0_3), .val (.int zqA), .val (.int zqB), .val (.int zqC), .val (.int zqM), .val (.ref ra), .val (.ref rb), .unset, .unset] [])) t → Steps p.tables e below (s₁.setTop (mkF m 78 #[.val (.int p0_0), .val (.int p0_1), .val (.int p0_2), .val (.int p0_3), .val (.int zqA), .val (.int zqB), .val (.int zqC), .val (.int zqM), .val (.ref ra), .val (.ref rb), .unset, .unset] [])) t := by
      intro t k
      refine pre0 t ?_
      refine XS.iload X0.here hx rfl (hb hby at_78) rfl ?_
      refine XS.iconst X0.here hx rfl (hb hby at_80) ?_
      refine XS.icmpNo X0.here hx rfl (hb hby at_81) rfl (tlt (own_gS _ hg).1).2.1 ?_
      refine XS.aload X0.here hx rfl (hb hby at_84) rfl rfl ?_
      refine XS.iloadN X0.here hx rfl (hb hby at_86) rfl ?_
      refine st1 _ ?_
      refine XS.iload X1.here hx rfl (hb hby at_90) rfl ?_
      refine st26 _ ?_
      refine st46.trans ?_
      exact k
    obtain ⟨t_, o_, ss_, s2_, s3_, v_, L_, hv_, hq_, hf_⟩ := sgCP hw hEL wS p0_0 p0_1 p0_2 p0_3 zqA zqB zqC zqM ra la d2_46 n2_46 ma ea ka (1 : Int32) ([(.ref ax0), .null, .null, .null, .null, .null, .null, .null, .null, .null]) rb lb db nb mb u_DEFAULTCAPACITY_EMPTY_ELEMENTDATA cl_u_DEFAULTCAPACITY_EMPTY_ELEMENTDATA u_DELETED u__SwitchMap_com_example_batchrake_batchrake_Outcome cl_u__SwitchMap_com_example_batchrake_batchrake_Outcome u_CONFLICT u_BAD_REQUEST u_STORE_ERROR u_NOT_FOUND cs mr T46.heap n0 Zs46 F47 G46_0 G46_1 G46_2 G46_3 F48 F49 F50 F51 F52 F53 F54 F55 F56 F57 F58 F59 F60 F61 hcs hmir ne_ra_la ne_ra_ea ne_ra_rb ne_ra_lb ne_la_ea ne_la_rb ne_la_lb ne_ea_rb ne_ea_lb ne_rb_lb hovA (Or.inl rfl) rfl hd_zqC (fun q => hA q.1) g_ra g_la g_ea g_rb g_lb (X46.more (by decide) (by decide)) hx hZ hby hml hown hret (by first | assumption | exact BodyLoose.notSynchronized (by assumption) | exact Body.notSynchronized (by assumption)) rfl N46 hh hS hk hCR
    exact ⟨t_, o_, k64 _ ss_, s2_, s3_, v_, L_, hv_, hq_, hf_⟩
  · skip
    obtain ⟨_, _, ⟨T65, L65, k65, n65⟩, -, X65, ⟨Lc65, hQ65, l65, y65, z65⟩, st65⟩ := Jvm.LawKit.callS X0 hx (y := (⟨"com/example/batchrake/batchrake/DeleteReportHasFailuresPinLaw", "name", "(I)Ljava/lang/String;"⟩ : MethodName)) hown (mvT hZ (wd hw 51 rfl)) (mvT hZ (wd hw 52 rfl)) (mvT hZ (wd hw 53 rfl)) (mvT hZ (wd hw 54 rfl)) (by decide) (backOf (W := 1) (rm10 l Z a0 hw [] p0_1 cs h0 n0 Z0 (own_b20 B0) hcs) hZ (wd hw 54 rfl) (wd hw 53 rfl) (by decide) (by decide)) (g := (mkF m 87 #[.val (.int p0_0), .val (.int p0_1), .val (.int p0_2), .val (.int p0_3), .val (.int zqA), .val (.int zqB), .val (.int zqC), .val (.int zqM), .val (.ref ra), .val (.ref rb), .unset, .unset] [(.int p0_1), (.ref ra)])) rfl (by rw [hml]; rfl) (argsL := [(.int p0_1)]) (rest := [(.ref ra)]) (lenOf pd_19 rfl) rfl (by show 2 * 0 + _ ≤ _; exact Nat.le_of_eq rfl) (hb hby at_87) (fun _ _ => ⟨rfl, e0, (by decide : 14 + 2 ≤ _), (by decide : 400 + 5 ≤ _)⟩)
    dsimp only [Pt.U, Pt.locs, Pt.cells, Pt.slots] at X65 l65 y65 z65 st65 hQ65
    rw [l65, y65, z65] at X65
    obtain ⟨sx_65, rfl, N65q, Kc65, ggsx_65, szsx_65⟩ := hQ65
    have ne66 : ra ≠ sx_65 := Nat.ne_of_lt (Nat.lt_of_lt_of_le AEr.lt szsx_65)
    have ne67 : la ≠ sx_65 := Nat.ne_of_lt (Nat.lt_of_lt_of_le AEl.lt szsx_65)
    have ne68 : ea ≠ sx_65 := Nat.ne_of_lt (Nat.lt_of_lt_of_le AVe.lt szsx_65)
    have ne69 : rb ≠ sx_65 := Nat.ne_of_lt (Nat.lt_of_lt_of_le BEr.lt szsx_65)
    have ne70 : lb ≠ sx_65 := Nat.ne_of_lt (Nat.lt_of_lt_of_le BEl.lt szsx_65)
    have Zs65 : n0 ≤ T65.heap.size := Nat.le_trans Z0 Kc65.1
    have hCR := hCR.trans (CHr.keep Kc65 sf0 hCR.1)
    have hk := Nat.le_trans hk Kc65.1
    have F71 := own_bkeep B0 Kc65 all0 all0
    have F72 := AEr.keep Kc65
    have F73 := AFf.keep Kc65 nin0
    have F74 := AFd.keep Kc65 nin0
    have F75 := AFn.keep Kc65 nin0
    have F76 := AEl.keep Kc65
    have F77 := AFm.keep Kc65 nin0
    have F78 := AFz.keep Kc65 nin0
    have F79 := AFe.keep Kc65 nin0
    have F80 := AVe.keep Kc65 nin0
    have F81 := AEd.keep Kc65
    have F82 := BEr.keep Kc65
    have F83 := BFf.keep Kc65 nin0
    have F84 := BFd.keep Kc65 nin0
    have F85 := BFn.keep Kc65 nin0
    have F86 := BEl.keep Kc65
    have F87 := BFm.keep Kc65 nin0
    have F88 := BFz.keep Kc65 nin0
    have F89 := BFe.keep Kc65 nin0
    have N65 := Fr.app N0 N65q
    obtain ⟨_, _, ⟨T90, L90, k90, n90⟩, -, X90, ⟨Lc90, hQ90, l90, y90, z90⟩, st90⟩ := Jvm.LawKit.callS X65 hx (y := (⟨"com/example/batchrake/batchrake/DeleteReportHasFailuresPinLaw", "pick", "(I)Lcom/example/batchrake/batchrake/Outcome;"⟩ : MethodName)) hown (mvT hZ (wd hw 74 rfl)) (mvT hZ (wd hw 75 rfl)) (mvT hZ (wd hw 53 rfl)) (mvT hZ (wd hw 76 rfl)) (by decide) (backOf (W := 2) (rm12 l Z a0 hw [] zqB u_BAD_REQUEST u_CONFLICT u_STORE_ERROR T65.heap n0 Zs65 (own_b9 F71) (own_b10 F71) (own_b11 F71) (own_b6 F71) (own_b7 F71) (own_b8 F71) (own_b12 F71) (own_b13 F71) (own_b14 F71) hg) hZ (wd hw 76 rfl) (wd hw 53 rfl) (by decide) (by decide)) (g := (mkF m 92 #[.val (.int p0_0), .val (.int p0_1), .val (.int p0_2), .val (.int p0_3), .val (.int zqA), .val (.int zqB), .val (.int zqC), .val (.int zqM), .val (.ref ra), .val (.ref rb), .unset, .unset] [(.int zqB), (.ref sx_65), (.ref ra)])) rfl (by rw [hml]; rfl) (argsL := [(.int zqB)]) (rest := [(.ref sx_65), (.ref ra)]) (lenOf pd_20 rfl) rfl (by show 2 * 0 + _ ≤ _; exact Nat.le_of_eq rfl) (hb hby at_92) (fun _ _ => ⟨rfl, rfl, (by decide : 16 + 0 ≤ _), (by decide : 405 + 0 ≤ _)⟩)
    dsimp only [Pt.U, Pt.locs, Pt.cells, Pt.slots] at X90 l90 y90 z90 st90 hQ90
    rw [l90, y90, z90] at X90
    obtain ⟨ux_90, rfl, N90q, Kc90, G90_0, G90_1⟩ := hQ90
    have Zs90 : n0 ≤ T90.heap.size := Nat.le_trans Zs65 Kc90.1
    have hCR := hCR.trans (CHr.keep Kc90 sf0 hCR.1)
    have hk := Nat.le_trans hk Kc90.1
    have F91 := own_bkeep F71 Kc90 all0 all0
    have F92 := F72.keep Kc90
    have F93 := F73.keep Kc90 nin0
    have F94 := F74.keep Kc90 nin0
    have F95 := F75.keep Kc90 nin0
    have F96 := F76.keep Kc90
    have F97 := F77.keep Kc90 nin0
    have F98 := F78.keep Kc90 nin0
    have F99 := F79.keep Kc90 nin0
    have F100 := F80.keep Kc90 nin0
    have F101 := F81.keep Kc90
    have F102 := F82.keep Kc90
    have F103 := F83.keep Kc90 nin0
    have F104 := F84.keep Kc90 nin0
    have F105 := F85.keep Kc90 nin0
    have F106 := F86.keep Kc90
    have F107 := F87.keep Kc90 nin0
    have F108 := F88.keep Kc90 nin0
    have F109 := F89.keep Kc90 nin0
    have N90 := Fr.app N65 N90q
    obtain ⟨cq110, kq110, q110a, q110b, q110c⟩ := isOf hZ rfl F92
    obtain ⟨_, _, ⟨T110, L110, k110, n110⟩, -, X110, ⟨Lc110, hQ110, l110, y110, z110⟩, st110⟩ := X90.virtualBack hx (y := (⟨"com/example/batchrake/batchrake/DeleteReport", "add", "(Ljava/lang/String;Lcom/example/batchrake/batchrake/Outcome;)V"⟩ : MethodName)) (z := (⟨"com/example/batchrake/batchrake/DeleteReport", "add", "(Ljava/lang/String;Lcom/example/batchrake/batchrake/Outcome;)V"⟩ : MethodName)) hown (mvT hZ (wd hw 80 rfl)) (mvT hZ (wd hw 81 rfl)) (notFace_of_selects (args := #[]) (mvT hZ (wd hw 83 rfl))) (mvT hZ (wd hw 83 rfl)) (mvT hZ (wd hw 82 rfl)) (by decide) (backOf (W := 0) (rm41 l Z a0 hw [] ra sx_65 ux_90 u__SwitchMap_com_example_batchrake_batchrake_Outcome cl_u__SwitchMap_com_example_batchrake_batchrake_Outcome la zqB ma ea ka ax0 T90.heap n0 Zs90 (own_b4 F91) (own_b19 F91) F92 F93 G90_0 G90_1 F96 F97 F98 F99 F100 F101 hg hovA (Ne.symm ne_la_ea) g_la g_ea) hZ (wd hw 84 rfl) (wd hw 3 rfl) (by decide) (by decide)) q110a q110c (g := (mkF m 95 #[.val (.int p0_0), .val (.int p0_1), .val (.int p0_2), .val (.int p0_3), .val (.int zqA), .val (.int zqB), .val (.int zqC), .val (.int zqM), .val (.ref ra), .val (.ref rb), .unset, .unset] [(.ref ux_90), (.ref sx_65), (.ref ra)])) rfl (by rw [hml]; rfl) (Steps.refl _) (argsL := [(.ref sx_65), (.ref ux_90)]) (rest := []) (lenOf pd_14 rfl) rfl (by show 2 * 0 + _ ≤ _; exact Nat.le_of_eq rfl) (hb hby at_95) (fun _ _ => ⟨rfl, rfl, (by decide : 16 + 1 ≤ _), (by decide : 405 + 2 ≤ _)⟩)
    dsimp only [Pt.U, Pt.locs, Pt.cells, Pt.slots] at X110 l110 y110 z110 st110 hQ110
    rw [l110, y110, z110] at X110
    obtain ⟨fx_110, rfl, N110q, Kc110, ggfx_110, szfx_110, G110_0, G110_1, G110_2, G110_3, G110_4, G110_5⟩ := hQ110
    have ne111 : ra ≠ fx_110 := Nat.ne_of_lt (Nat.lt_of_lt_of_le F92.lt szfx_110)
    have ne112 : la ≠ fx_110 := Nat.ne_of_lt (Nat.lt_of_lt_of_le F96.lt szfx_110)
    have ne113 : ea ≠ fx_110 := Nat.ne_of_lt (Nat.lt_of_lt_of_le F100.lt szfx_110)
    have ne114 : rb ≠ fx_110 := Nat.ne_of_lt (Nat.lt_of_lt_of_le F102.lt szfx_110)
    have ne115 : lb ≠ fx_110 := Nat.ne_of_lt (Nat.lt_of_lt_of_le F106.lt szfx_110)
    have ne116 : ux_90 ≠ fx_110 := Nat.ne_of_lt (Nat.lt_of_lt_of_le G90_0.lt szfx_110)
    have Zs110 : n0 ≤ T110.heap.size := Nat.le_trans Zs90 Kc110.1
    have hCR := hCR.trans (CHr.keep Kc110 (sfS own_safe0 (sfS own_safe0 sf0)) hCR.1)
    have hk := Nat.le_trans hk Kc110.1
    have F117 := own_bkeep F91 Kc110 (allS g_la (allS g_ea all0)) (allS (own_nsE F96) (allS (own_nsE F101) all0))
    have F118 := F92.keep Kc110
    have F119 := F93.keep Kc110 (ninS ne_ra_la (ninS ne_ra_ea nin0))
    have F120 := F94.keep Kc110 (ninS ne_ra_la (ninS ne_ra_ea nin0))
    have F121 := F95.keep Kc110 (ninS ne_ra_la (ninS ne_ra_ea nin0))
    have F122 := F102.keep Kc110
    have F123 := F103.keep Kc110 (ninS (Ne.symm ne_la_rb) (ninS (Ne.symm ne_ea_rb) nin0))
    have F124 := F104.keep Kc110 (ninS (Ne.symm ne_la_rb) (ninS (Ne.symm ne_ea_rb) nin0))
    have F125 := F105.keep Kc110 (ninS (Ne.symm ne_la_rb) (ninS (Ne.symm ne_ea_rb) nin0))
    have F126 := F106.keep Kc110
    have F127 := F107.keep Kc110 (ninS (Ne.symm ne_la_lb) (ninS (Ne.symm ne_ea_lb) nin0))
    have F128 := F108.keep Kc110 (ninS (Ne.symm ne_la_lb) (ninS (Ne.symm ne_ea_lb) nin0))
    have F129 := F109.keep Kc110 (ninS (Ne.symm ne_la_lb) (ninS (Ne.symm ne_ea_lb) nin0))
    have F130 := G90_0.keep Kc110
    have N110 := Fr.app N90 N110q
    have k132 : ∀ t, Steps p.tables e below (T110.setTop (mkF m 98 #[.val (.int p0_0), .val (.int p0_1), .val (.int p0_2), .val (.int p0_3), .val (.int zqA), .val (.int zqB), .val (.int zqC), .val (.int zqM), .val (.ref ra), .val (.ref rb), .unset, .unset] [])) t → Steps p.tables e below (s₁.setTop (mkF m 78 #[.val (.int p0_0), .val (.int p0_1), .val (.int p0_2), .val (.int p0_3), .val (.int zqA), .val (.int zqB), .val (.int zqC), .val (.int zqM), .val (.ref ra), .val (.ref rb), .unset, .unset] [])) t := by
      intro t k
      refine pre0 t ?_
      refine XS.iload X0.here hx rfl (hb hby at_78) rfl ?_
      refine XS.iconst X0.here hx rfl (hb hby at_80) ?_
      refine XS.icmpNo X0.here hx rfl (hb hby at_81) rfl (tlt (own_gF _ hg).1).2.1 ?_
      refine XS.aload X0.here hx rfl (hb hby at_84) rfl rfl ?_
      refine XS.iloadN X0.here hx rfl (hb hby at_86) rfl ?_
      refine st65 _ ?_
      refine XS.iload X65.here hx rfl (hb hby at_90) rfl ?_
      refine st90 _ ?_
      refine st110.trans ?_
      exact k
    obtain ⟨t_, o_, ss_, s2_, s3_, v_, L_, hv_, hq_, hf_⟩ := sgCP hw hEL wS p0_0 p0_1 p0_2 p0_3 zqA zqB zqC zqM ra la da na (ma + (1 : Int32)) ea ka (2 : Int32) ([(.ref ax0), (.ref fx_110), .null, .null, .null, .null, .null, .null, .null, .null]) rb lb db nb mb u_DEFAULTCAPACITY_EMPTY_ELEMENTDATA cl_u_DEFAULTCAPACITY_EMPTY_ELEMENTDATA u_DELETED u__SwitchMap_com_example_batchrake_batchrake_Outcome cl_u__SwitchMap_com_example_batchrake_batchrake_Outcome u_CONFLICT u_BAD_REQUEST u_STORE_ERROR u_NOT_FOUND cs mr T110.heap n0 Zs110 F117 F118 F119 F120 F121 G110_0 G110_1 G110_2 G110_3 G110_4 G110_5 F122 F123 F124 F125 F126 F127 F128 F129 hcs hmir ne_ra_la ne_ra_ea ne_ra_rb ne_ra_lb ne_la_ea ne_la_rb ne_la_lb ne_ea_rb ne_ea_lb ne_rb_lb hovA (Or.inr rfl) rfl hd_zqC (fun q => hA q.1) g_ra g_la g_ea g_rb g_lb (X110.more (by decide) (by decide)) hx hZ hby hml hown hret (by first | assumption | exact BodyLoose.notSynchronized (by assumption) | exact Body.notSynchronized (by assumption)) rfl N110 hh hS hk hCR
    exact ⟨t_, o_, k132 _ ss_, s2_, s3_, v_, L_, hv_, hq_, hf_⟩
  · skip
    have k133 : ∀ t, Steps p.tables e below (s₁.setTop (mkF m 98 #[.val (.int p0_0), .val (.int p0_1), .val (.int p0_2), .val (.int p0_3), .val (.int zqA), .val (.int zqB), .val (.int zqC), .val (.int zqM), .val (.ref ra), .val (.ref rb), .unset, .unset] [])) t → Steps p.tables e below (s₁.setTop (mkF m 78 #[.val (.int p0_0), .val (.int p0_1), .val (.int p0_2), .val (.int p0_3), .val (.int zqA), .val (.int zqB), .val (.int zqC), .val (.int zqM), .val (.ref ra), .val (.ref rb), .unset, .unset] [])) t := by
      intro t k
      refine pre0 t ?_
      refine XS.iload X0.here hx rfl (hb hby at_78) rfl ?_
      refine XS.iconst X0.here hx rfl (hb hby at_80) ?_
      refine XS.icmpYes X0.here hx rfl (pc0 := 81) (pc' := 98) rfl (hb hby at_81) rfl (flt (own_g5 _ hg).1).2.1 (by decide) (by decide) ?_
      exact k
    obtain ⟨t_, o_, ss_, s2_, s3_, v_, L_, hv_, hq_, hf_⟩ := sgCP hw hEL wS p0_0 p0_1 p0_2 p0_3 zqA zqB zqC zqM ra la da na ma ea ka (1 : Int32) ([(.ref ax0), .null, .null, .null, .null, .null, .null, .null, .null, .null]) rb lb db nb mb u_DEFAULTCAPACITY_EMPTY_ELEMENTDATA cl_u_DEFAULTCAPACITY_EMPTY_ELEMENTDATA u_DELETED u__SwitchMap_com_example_batchrake_batchrake_Outcome cl_u__SwitchMap_com_example_batchrake_batchrake_Outcome u_CONFLICT u_BAD_REQUEST u_STORE_ERROR u_NOT_FOUND cs mr h0 n0 Z0 B0 AEr AFf AFd AFn AEl AFm AFz AFe AVe AEd BEr BFf BFd BFn BEl BFm BFz BFe hcs hmir ne_ra_la ne_ra_ea ne_ra_rb ne_ra_lb ne_la_ea ne_la_rb ne_la_lb ne_ea_rb ne_ea_lb ne_rb_lb hovA (Or.inl rfl) rfl hd_zqC (fun q => hA q.1) g_ra g_la g_ea g_rb g_lb (X0.more (by decide) (by decide)) hx hZ hby hml hown hret (by first | assumption | exact BodyLoose.notSynchronized (by assumption) | exact Body.notSynchronized (by assumption)) e0 N0 hh hS hk hCR
    exact ⟨t_, o_, k133 _ ss_, s2_, s3_, v_, L_, hv_, hq_, hf_⟩
theorem ef_0 (m : MethodId) (p0_0 : Int32) (p0_1 : Int32) (p0_2 : Int32) (p0_3 : Int32) : entryFrame m #[(.int p0_0), (.int p0_1), (.int p0_2), (.int p0_3)] maxLocals = mkF m 0 #[.val (.int p0_0), .val (.int p0_1), .val (.int p0_2), .val (.int p0_3), .unset, .unset, .unset, .unset, .unset, .unset, .unset, .unset] [] := by first | (simp [entryFrame, mkF, argsToLocals, Value.category, maxLocals]; done) | rfl
def Q0 (Z : State) (p0_0 : Int32) (p0_1 : Int32) (p0_2 : Int32) (p0_3 : Int32) (u_DEFAULTCAPACITY_EMPTY_ELEMENTDATA : Addr) (cl_u_DEFAULTCAPACITY_EMPTY_ELEMENTDATA : Cell) (u_DELETED : Addr) (u__SwitchMap_com_example_batchrake_batchrake_Outcome : Addr) (cl_u__SwitchMap_com_example_batchrake_batchrake_Outcome : Cell) (u_CONFLICT : Addr) (u_BAD_REQUEST : Addr) (u_STORE_ERROR : Addr) (u_NOT_FOUND : Addr) (cs : Int32) (mr : Addr) (h0 : Heap) (n0 : Nat) (v : Option Value) (h : Heap) (L : List Loc) : Prop := v = some (.int (1 : Int32)) ∧ Fr n0 L
set_option maxRecDepth 65536 in
set_option maxHeartbeats 40000000 in
theorem rm0 (l : Launch) (Z : State) (a0 : Array Value) (hw : ∀ d ∈ tables_1, d.before a0 Z = true) (ws : List Jvm.Cond) (hEL : EW Z a0 consts_1) (wS : ∀ a ∈ Bundle.stringAtoms, a.before a0 Z = true) (p0_0 : Int32) (p0_1 : Int32) (p0_2 : Int32) (p0_3 : Int32) (u_DEFAULTCAPACITY_EMPTY_ELEMENTDATA : Addr) (cl_u_DEFAULTCAPACITY_EMPTY_ELEMENTDATA : Cell) (u_DELETED : Addr) (u__SwitchMap_com_example_batchrake_batchrake_Outcome : Addr) (cl_u__SwitchMap_com_example_batchrake_batchrake_Outcome : Cell) (u_CONFLICT : Addr) (u_BAD_REQUEST : Addr) (u_STORE_ERROR : Addr) (u_NOT_FOUND : Addr) (cs : Int32) (mr : Addr) (h0 : Heap) (n0 : Nat) (Z0 : n0 ≤ h0.size) (B0 : own_base Z n0 h0 u_DEFAULTCAPACITY_EMPTY_ELEMENTDATA cl_u_DEFAULTCAPACITY_EMPTY_ELEMENTDATA u_DELETED u__SwitchMap_com_example_batchrake_batchrake_Outcome cl_u__SwitchMap_com_example_batchrake_batchrake_Outcome u_CONFLICT u_BAD_REQUEST u_STORE_ERROR u_NOT_FOUND cs) (hcs : ¬ (cs = (0 : Int32))) (hmir : Mir Z "[Ljava/lang/Object;" mr) :
    MetFree l x (head1 (Jvm.Cond.code x code maxLocals ret :: ws) room_1) (fun a U => a = #[(.int p0_0), (.int p0_1), (.int p0_2), (.int p0_3)] ∧ Z.Warmed39 U.vm ∧ U.heap = h0 ∧ CHv Z consts_1 U.vm h0) (fun _ _ _ _ _ => True) (fun _ U o U' => ∃ v L, o = .returned v ∧ Q0 Z p0_0 p0_1 p0_2 p0_3 u_DEFAULTCAPACITY_EMPTY_ELEMENTDATA cl_u_DEFAULTCAPACITY_EMPTY_ELEMENTDATA u_DELETED u__SwitchMap_com_example_batchrake_batchrake_Outcome cl_u__SwitchMap_com_example_batchrake_batchrake_Outcome u_CONFLICT u_BAD_REQUEST u_STORE_ERROR u_NOT_FOUND cs mr h0 n0 v U'.heap L ∧ CHr Z consts_1 U.vm U.heap U'.vm U'.heap ∧ ReturnedEndW U o U' L 48 1216) := by
  refine MetFree.of_bodySF (plainFor_of_name pn_6) hisR ?_
  intro p e s m args below meth c s₁ Bd hml0 hP hK
  obtain ⟨rfl, hZ, hh, hCH⟩ := hP
  have hx := Bd.exec
  have hby := Bd.bytes
  have hml : c.maxLocals = 12 := hml0
  have hown : s.vm.findClass "com/example/batchrake/batchrake/DeleteReportHasFailuresPinLaw" = some m.cls := findClass_of_methodNamed Bd.named
  have hnm := (name_of_methodNamed Bd.named Bd.method).1
  have X0 : Stand p l e room_1 (s.setVm s.vm) m #[(.int p0_0), (.int p0_1), (.int p0_2), (.int p0_3)] below meth c s₁ [] 0 0 := Stand.of_body Bd
  have e0 : s₁.heap = h0 := by rw [← hh, Bd.state]; rfl
  have N0 := Fr.nil n0
  have hS : s.Since s.vm h0.size := (State.WarmedH.refl s).since _
  have hk : h0.size ≤ h0.size := Nat.le_refl _
  have hCR : CHr Z consts_1 s.vm h0 s.vm h0 := CHr.refl hCH
  have pre0 : ∀ t, Steps p.tables e below (s₁.setTop (mkF m 0 #[.val (.int p0_0), .val (.int p0_1), .val (.int p0_2), .val (.int p0_3), .unset, .unset, .unset, .unset, .unset, .unset, .unset, .unset] [])) t → Steps p.tables e below (s₁.setTop (entryFrame m #[(.int p0_0), (.int p0_1), (.int p0_2), (.int p0_3)] maxLocals)) t := fun t k => castTop (ef_0 m p0_0 p0_1 p0_2 p0_3) k
  have k1 : ∀ t, Steps p.tables e below (s₁.setTop (mkF m 7 #[.val (.int p0_0), .val (.int p0_1), .val (.int p0_2), .val (.int p0_3), .unset, .unset, .unset, .unset, .unset, .unset, .unset, .unset] [(.int ((p0_0 &&& (2147483647 : Int32)) % (6 : Int32)))])) t → Steps p.tables e below (s₁.setTop (entryFrame m #[(.int p0_0), (.int p0_1), (.int p0_2), (.int p0_3)] maxLocals)) t := by
    intro t k
    refine pre0 t ?_
    refine XS.iloadN X0.here hx rfl (hb hby at_0) rfl ?_
    refine X0.ldcInt hx hown (mvT hZ (hw _ (List.mem_of_getElem? (i := 0) rfl))) (g := (mkF m 1 #[.val (.int p0_0), .val (.int p0_1), .val (.int p0_2), .val (.int p0_3), .unset, .unset, .unset, .unset, .unset, .unset, .unset, .unset] [(.int p0_0)])) rfl (hb hby at_1) _ ?_
    refine XS.iand X0.here hx rfl (hb hby at_3) rfl ?_
    refine XS.bipush X0.here hx rfl (hb hby at_4) ?_
    refine iremM X0 hx rfl (hb hby at_6) rfl (by decide) ?_
    exact k
  obtain ⟨zqA, hzqA⟩ : ∃ z, z = ((p0_0 &&& (2147483647 : Int32)) % (6 : Int32)) := ⟨_, rfl⟩
  rw [← hzqA] at k1
  have hd_zqA : (zqA = (0 : Int32) ∨ zqA = (1 : Int32)) ∨ (zqA = (2 : Int32) ∨ zqA = (3 : Int32) ∨ zqA = (4 : Int32)) ∨ zqA = (5 : Int32) := by rw [hzqA]; exact own_grp _
  have k2 : ∀ t, Steps p.tables e below (s₁.setTop (mkF m 16 #[.val (.int p0_0), .val (.int p0_1), .val (.int p0_2), .val (.int p0_3), .val (.int zqA), .unset, .unset, .unset, .unset, .unset, .unset, .unset] [(.int ((p0_1 &&& (2147483647 : Int32)) % (6 : Int32)))])) t → Steps p.tables e below (s₁.setTop (entryFrame m #[(.int p0_0), (.int p0_1), (.int p0_2), (.int p0_3)] maxLocals)) t := by
    intro t k
    refine k1 t ?_
    refine XS.istore X0.here hx rfl (hb hby at_7) rfl (l' := #[.val (.int p0_0), .val (.int p0_1), .val (.int p0_2), .val (.int p0_3), .val (.int zqA), .unset, .unset, .unset, .unset, .unset, .unset, .unset]) rfl ?_
    refine XS.iloadN X0.here hx rfl (hb hby at_9) rfl ?_
    refine X0.ldcInt hx hown (mvT hZ (hw _ (List.mem_of_getElem? (i := 0) rfl))) (g := (mkF m 10 #[.val (.int p0_0), .val (.int p0_1), .val (.int p0_2), .val (.int p0_3), .val (.int zqA), .unset, .unset, .unset, .unset, .unset, .unset, .unset] [(.int p0_1)])) rfl (hb hby at_10) _ ?_
    refine XS.iand X0.here hx rfl (hb hby at_12) rfl ?_
    refine XS.bipush X0.here hx rfl (hb hby at_13) ?_
    refine iremM X0 hx rfl (hb hby at_15) rfl (by decide) ?_
    exact k
  obtain ⟨zqB, hzqB⟩ : ∃ z, z = ((p0_1 &&& (2147483647 : Int32)) % (6 : Int32)) := ⟨_, rfl⟩
  rw [← hzqB] at k2
  have hd_zqB : (zqB = (0 : Int32) ∨ zqB = (1 : Int32)) ∨ (zqB = (2 : Int32) ∨ zqB = (3 : Int32) ∨ zqB = (4 : Int32)) ∨ zqB = (5 : Int32) := by rw [hzqB]; exact own_grp _
  have k3 : ∀ t, Steps p.tables e below (s₁.setTop (mkF m 25 #[.val (.int p0_0), .val (.int p0_1), .val (.int p0_2), .val (.int p0_3), .val (.int zqA), .val (.int zqB), .unset, .unset, .unset, .unset, .unset, .unset] [(.int ((p0_2 &&& (2147483647 : Int32)) % (6 : Int32)))])) t → Steps p.tables e below (s₁.setTop (entryFrame m #[(.int p0_0), (.int p0_1), (.int p0_2), (.int p0_3)] maxLocals)) t := by
    intro t k
    refine k2 t ?_
    refine XS.istore X0.here hx rfl (hb hby at_16) rfl (l' := #[.val (.int p0_0), .val (.int p0_1), .val (.int p0_2), .val (.int p0_3), .val (.int zqA), .val (.int zqB), .unset, .unset, .unset, .unset, .unset, .unset]) rfl ?_
    refine XS.iloadN X0.here hx rfl (hb hby at_18) rfl ?_
    show Steps p.tables e below (s₁.setTop (mkF m 19 #[.val (.int p0_0), .val (.int p0_1), .val (.int p0_2), .val (.int p0_3), .val (.int zqA), .val (.int zqB), .unset, .unset, .unset, .unset, .unset, .unset] [(.int p0_2)])) _
    refine X0.ldcInt hx hown (mvT hZ (hw _ (List.mem_of_getElem? (i := 0) rfl))) (g := (mkF m 19 #[.val (.int p0_0), .val (.int p0_1), .val (.int p0_2), .val (.int p0_3), .val (.int zqA), .val (.int zqB), .unset, .unset, .unset, .unset, .unset, .unset] [(.int p0_2)])) rfl (hb hby at_19) _ ?_
    refine XS.iand X0.here hx rfl (hb hby at_21) rfl ?_
    refine XS.bipush X0.here hx rfl (hb hby at_22) ?_
    refine iremM X0 hx rfl (hb hby at_24) rfl (by decide) ?_
    exact k
  obtain ⟨zqC, hzqC⟩ : ∃ z, z = ((p0_2 &&& (2147483647 : Int32)) % (6 : Int32)) := ⟨_, rfl⟩
  rw [← hzqC] at k3
  have hd_zqC : (zqC = (0 : Int32) ∨ zqC = (1 : Int32)) ∨ (zqC = (2 : Int32) ∨ zqC = (3 : Int32) ∨ zqC = (4 : Int32)) ∨ zqC = (5 : Int32) := by rw [hzqC]; exact own_grp _
  have k4 : ∀ t, Steps p.tables e below (s₁.setTop (mkF m 30 #[.val (.int p0_0), .val (.int p0_1), .val (.int p0_2), .val (.int p0_3), .val (.int zqA), .val (.int zqB), .val (.int zqC), .unset, .unset, .unset, .unset, .unset] [(.int (p0_3 &&& (1 : Int32)))])) t → Steps p.tables e below (s₁.setTop (entryFrame m #[(.int p0_0), (.int p0_1), (.int p0_2), (.int p0_3)] maxLocals)) t := by
    intro t k
    refine k3 t ?_
    refine XS.istore X0.here hx rfl (hb hby at_25) rfl (l' := #[.val (.int p0_0), .val (.int p0_1), .val (.int p0_2), .val (.int p0_3), .val (.int zqA), .val (.int zqB), .val (.int zqC), .unset, .unset, .unset, .unset, .unset]) rfl ?_
    refine XS.iloadN X0.here hx rfl (hb hby at_27) rfl ?_
    refine XS.iconst X0.here hx rfl (hb hby at_28) ?_
    refine XS.iand X0.here hx rfl (hb hby at_29) rfl ?_
    exact k
  obtain ⟨v6, hv6⟩ : ∃ z, z = (if (p0_3 &&& (1 : Int32)) = (0 : Int32) then (0 : Int32) else (1 : Int32)) := ⟨_, rfl⟩
  have k7 : ∀ t, Steps p.tables e below (s₁.setTop (mkF m 38 #[.val (.int p0_0), .val (.int p0_1), .val (.int p0_2), .val (.int p0_3), .val (.int zqA), .val (.int zqB), .val (.int zqC), .unset, .unset, .unset, .unset, .unset] [(.int v6)])) t → Steps p.tables e below (s₁.setTop (entryFrame m #[(.int p0_0), (.int p0_1), (.int p0_2), (.int p0_3)] maxLocals)) t := by
    intro t k
    refine k4 t ?_
    by_cases hc30_5 : (p0_3 &&& (1 : Int32)) = (0 : Int32)
    · skip
      refine XS.ifYes X0.here hx rfl (pc0 := 30) (pc' := 37) rfl (hb hby at_30) rfl ((if0 _ _).trans (teq hc30_5).1) (by decide) (by decide) ?_
      refine XS.iconst X0.here hx rfl (hb hby at_37) ?_
      rw [show v6 = (0 : Int32) from hv6.trans (by rw [if_pos hc30_5])] at k
      exact k
    · skip
      refine XS.ifNo X0.here hx rfl (hb hby at_30) rfl ((if0 _ _).trans (feq hc30_5).1) ?_
      refine XS.iconst X0.here hx rfl (hb hby at_33) ?_
      refine XS.goto X0.here hx rfl (pc0 := 34) (pc' := 38) rfl (hb hby at_34) (by decide) (by decide) ?_
      rw [show v6 = (1 : Int32) from hv6.trans (by rw [if_neg hc30_5])] at k
      exact k
  obtain ⟨b8, g8⟩ : ∃ z, z = h0.size := ⟨_, rfl⟩
  obtain ⟨T8, h8, X8, e8, E8, A8, D8, -, st8⟩ := newO X0 hx hZ hown (wd hw 1 rfl) (wd hw 2 rfl) (wd hw 3 rfl) e0 (g := (mkF m 40 #[.val (.int p0_0), .val (.int p0_1), .val (.int p0_2), .val (.int p0_3), .val (.int zqA), .val (.int zqB), .val (.int zqC), .val (.int v6), .unset, .unset, .unset, .unset] [])) rfl (hb hby at_40) (by decide) (by decide)
  rw [← g8] at A8 D8 st8
  have sfn8 := Safe.new (Z := Z) (EL := consts_1) (vm := s.vm) (Nat.le_of_eq g8.symm)
  have sf9 := Safe.ext E8 hCR.1 sfn8
  have hCR := hCR.trans (CHr.ext E8 hCR.1)
  have hk := Nat.le_trans hk E8.1
  have gg8 : n0 ≤ b8 := Nat.le_trans Z0 (Nat.le_of_eq g8.symm)
  have Zs8 : n0 ≤ h8.size := Nat.le_trans Z0 E8.1
  have F10 := own_bext B0 E8
  have F11 : Fld Z h8 b8 "com/example/batchrake/batchrake/DeleteReport" "failures" "Ljava/util/List;" .null := D8 (Or.inr (wd hw 46 rfl)) (ty := (.object "java/util/List")) (by decide)
  have F12 : Fld Z h8 b8 "com/example/batchrake/batchrake/DeleteReport" "refusalStatus" "Ljava/lang/String;" .null := D8 (Or.inr (wd hw 48 rfl)) (ty := (.object "java/lang/String")) (by decide)
  have F13 : Fld Z h8 b8 "com/example/batchrake/batchrake/DeleteReport" "refusalReason" "Ljava/lang/String;" .null := D8 (Or.inr (wd hw 50 rfl)) (ty := (.object "java/lang/String")) (by decide)
  have F14 : Fld Z h8 b8 "com/example/batchrake/batchrake/DeleteReport" "deleted" "I" (.int (0 : Int32)) := D8 (Or.inl (wd hw 98 rfl)) (ty := .int) (by decide)
  have F15 : Fld Z h8 b8 "com/example/batchrake/batchrake/DeleteReport" "notFound" "I" (.int (0 : Int32)) := D8 (Or.inl (wd hw 155 rfl)) (ty := .int) (by decide)
  obtain ⟨_, _, ⟨T16, L16, k16, n16⟩, -, X16, hS2, hg2, ⟨Lc16, hQ16, l16, y16, z16, hC16⟩, st16⟩ := X8.specialBackS hx (y := (⟨"com/example/batchrake/batchrake/DeleteReport", "<init>", "()V"⟩ : MethodName)) rfl hown (mvT hZ (wd hw 4 rfl)) (mvT hZ (wd hw 5 rfl)) (mvT hZ (wd hw 6 rfl)) (by decide) (backOfSH (W := 1) (rm5 l Z a0 hw [] hEL wS b8 u_DEFAULTCAPACITY_EMPTY_ELEMENTDATA h8 n0 Zs8 A8 F11 F14 F15 F12 F13 (own_b0 F10) gg8) hZ (wd hw 6 rfl) (wd hw 3 rfl) (by decide) (by decide) hEL hCR.1) (g := (mkF m 44 #[.val (.int p0_0), .val (.int p0_1), .val (.int p0_2), .val (.int p0_3), .val (.int zqA), .val (.int zqB), .val (.int zqC), .val (.int v6), .unset, .unset, .unset, .unset] [(.ref b8), (.ref b8)])) rfl (by rw [hml]; rfl) (Steps.refl _) (a := b8) (argsL := []) (rest := [(.ref b8)]) (lenOf pd_0 rfl) rfl (by show 2 * 0 + _ ≤ _; exact Nat.le_of_eq rfl) (hb hby at_44) (fun _ _ => ⟨rfl, e8, (by decide : 1 + 3 ≤ _), (by decide : 5 + 7 ≤ _)⟩)
  dsimp only [Pt.U, Pt.locs, Pt.cells, Pt.slots] at X16 hS2 hg2 hC16 l16 y16 z16 st16 hQ16
  rw [l16, y16, z16] at X16
  obtain ⟨X16, hS, hZ, hown⟩ := rebS hS (by rw [e8]; exact hk) X16 hS2 hg2 hZ hown
  have hk := Nat.le_refl T16.heap.size
  have hCR := hCR.trans hC16
  obtain ⟨lx_16, rfl, N16q, Kc16, gglx_16, szlx_16, G16_0, G16_1, G16_2, G16_3, G16_4, G16_5, G16_6, G16_7⟩ := hQ16
  have ne17 : b8 ≠ lx_16 := Nat.ne_of_lt (Nat.lt_of_lt_of_le A8.lt szlx_16)
  have Zs16 : n0 ≤ T16.heap.size := Nat.le_trans Zs8 Kc16.1
  have sf18 := hC16.safe A8.lt sf9
  have F19 := own_bkeep F10 Kc16 (allS gg8 all0) (allS (own_nsE A8) all0)
  have N16 := Fr.app N0 N16q
  obtain ⟨b22, g22⟩ : ∃ z, z = T16.heap.size := ⟨_, rfl⟩
  obtain ⟨T22, h22, X22, e22, E22, A22, D22, -, st22⟩ := newO X16 hx hZ hown (wd hw 1 rfl) (wd hw 2 rfl) (wd hw 3 rfl) rfl (g := (mkF m 49 #[.val (.int p0_0), .val (.int p0_1), .val (.int p0_2), .val (.int p0_3), .val (.int zqA), .val (.int zqB), .val (.int zqC), .val (.int v6), .val (.ref b8), .unset, .unset, .unset] [])) rfl (hb hby at_49) (by decide) (by decide)
  rw [← g22] at A22 D22 st22
  have ne23 : b8 ≠ b22 := Nat.ne_of_lt (Nat.lt_of_lt_of_le G16_0.lt (Nat.le_of_eq g22.symm))
  have ne24 : lx_16 ≠ b22 := Nat.ne_of_lt (Nat.lt_of_lt_of_le G16_4.lt (Nat.le_of_eq g22.symm))
  have sfn22 := Safe.new (Z := Z) (EL := consts_1) (vm := T16.vm) (Nat.le_of_eq g22.symm)
  have sf25 := Safe.ext E22 hCR.1 sf18
  have sf26 := Safe.ext E22 hCR.1 sfn22
  have hCR := hCR.trans (CHr.ext E22 hCR.1)
  have hk := Nat.le_trans hk E22.1
  have gg22 : n0 ≤ b22 := Nat.le_trans Zs16 (Nat.le_of_eq g22.symm)
  have Zs22 : n0 ≤ h22.size := Nat.le_trans Zs16 E22.1
  have F27 := own_bext F19 E22
  have F28 := G16_0.ext E22
  have F29 := G16_1.ext E22
  have F30 := G16_2.ext E22
  have F31 := G16_3.ext E22
  have F32 := G16_4.ext E22
  have F33 := G16_5.ext E22
  have F34 := G16_6.ext E22
  have F35 := G16_7.ext E22
  have F36 : Fld Z h22 b22 "com/example/batchrake/batchrake/DeleteReport" "failures" "Ljava/util/List;" .null := D22 (Or.inr (wd hw 46 rfl)) (ty := (.object "java/util/List")) (by decide)
  have F37 : Fld Z h22 b22 "com/example/batchrake/batchrake/DeleteReport" "refusalStatus" "Ljava/lang/String;" .null := D22 (Or.inr (wd hw 48 rfl)) (ty := (.object "java/lang/String")) (by decide)
  have F38 : Fld Z h22 b22 "com/example/batchrake/batchrake/DeleteReport" "refusalReason" "Ljava/lang/String;" .null := D22 (Or.inr (wd hw 50 rfl)) (ty := (.object "java/lang/String")) (by decide)
  have F39 : Fld Z h22 b22 "com/example/batchrake/batchrake/DeleteReport" "deleted" "I" (.int (0 : Int32)) := D22 (Or.inl (wd hw 98 rfl)) (ty := .int) (by decide)
  have F40 : Fld Z h22 b22 "com/example/batchrake/batchrake/DeleteReport" "notFound" "I" (.int (0 : Int32)) := D22 (Or.inl (wd hw 155 rfl)) (ty := .int) (by decide)
  obtain ⟨_, _, ⟨T41, L41, k41, n41⟩, -, X41, hS2, hg2, ⟨Lc41, hQ41, l41, y41, z41, hC41⟩, st41⟩ := X22.specialBackS hx (y := (⟨"com/example/batchrake/batchrake/DeleteReport", "<init>", "()V"⟩ : MethodName)) rfl hown (mvT hZ (wd hw 4 rfl)) (mvT hZ (wd hw 5 rfl)) (mvT hZ (wd hw 6 rfl)) (by decide) (backOfSH (W := 1) (rm5 l Z a0 hw [] hEL wS b22 u_DEFAULTCAPACITY_EMPTY_ELEMENTDATA h22 n0 Zs22 A22 F36 F39 F40 F37 F38 (own_b0 F27) gg22) hZ (wd hw 6 rfl) (wd hw 3 rfl) (by decide) (by decide) hEL hCR.1) (g := (mkF m 53 #[.val (.int p0_0), .val (.int p0_1), .val (.int p0_2), .val (.int p0_3), .val (.int zqA), .val (.int zqB), .val (.int zqC), .val (.int v6), .val (.ref b8), .unset, .unset, .unset] [(.ref b22), (.ref b22)])) rfl (by rw [hml]; rfl) (Steps.refl _) (a := b22) (argsL := []) (rest := [(.ref b22)]) (lenOf pd_0 rfl) rfl (by show 2 * 0 + _ ≤ _; exact Nat.le_of_eq rfl) (hb hby at_53) (fun _ _ => ⟨rfl, e22, (by decide : 5 + 3 ≤ _), (by decide : 17 + 7 ≤ _)⟩)
  dsimp only [Pt.U, Pt.locs, Pt.cells, Pt.slots] at X41 hS2 hg2 hC41 l41 y41 z41 st41 hQ41
  rw [l41, y41, z41] at X41
  obtain ⟨X41, hS, hZ, hown⟩ := rebS hS (by rw [e22]; exact hk) X41 hS2 hg2 hZ hown
  have hk := Nat.le_refl T41.heap.size
  have hCR := hCR.trans hC41
  obtain ⟨lx_41, rfl, N41q, Kc41, gglx_41, szlx_41, G41_0, G41_1, G41_2, G41_3, G41_4, G41_5, G41_6, G41_7⟩ := hQ41
  have ne42 : b8 ≠ lx_41 := Nat.ne_of_lt (Nat.lt_of_lt_of_le F28.lt szlx_41)
  have ne43 : lx_16 ≠ lx_41 := Nat.ne_of_lt (Nat.lt_of_lt_of_le F32.lt szlx_41)
  have ne44 : b22 ≠ lx_41 := Nat.ne_of_lt (Nat.lt_of_lt_of_le A22.lt szlx_41)
  have Zs41 : n0 ≤ T41.heap.size := Nat.le_trans Zs22 Kc41.1
  have sf45 := hC41.safe F28.lt sf25
  have sf46 := hC41.safe A22.lt sf26
  have F47 := own_bkeep F27 Kc41 (allS gg22 all0) (allS (own_nsE A22) all0)
  have F48 := F28.keep Kc41
  have F49 := F29.keep Kc41 (ninS ne23 nin0)
  have F50 := F30.keep Kc41 (ninS ne23 nin0)
  have F51 := F31.keep Kc41 (ninS ne23 nin0)
  have F52 := F32.keep Kc41
  have F53 := F33.keep Kc41 (ninS ne24 nin0)
  have F54 := F34.keep Kc41 (ninS ne24 nin0)
  have F55 := F35.keep Kc41 (ninS ne24 nin0)
  have N41 := Fr.app N16 N41q
  rcases hd_zqA with hg | hg | hg
  · skip
    obtain ⟨_, _, ⟨T58, L58, k58, n58⟩, -, X58, ⟨Lc58, hQ58, l58, y58, z58⟩, st58⟩ := Jvm.LawKit.callS X41 hx (y := (⟨"com/example/batchrake/batchrake/DeleteReportHasFailuresPinLaw", "name", "(I)Ljava/lang/String;"⟩ : MethodName)) hown (mvT hZ (wd hw 51 rfl)) (mvT hZ (wd hw 52 rfl)) (mvT hZ (wd hw 53 rfl)) (mvT hZ (wd hw 54 rfl)) (by decide) (backOf (W := 1) (rm10 l Z a0 hw [] p0_0 cs T41.heap n0 Zs41 (own_b20 F47) hcs) hZ (wd hw 54 rfl) (wd hw 53 rfl) (by decide) (by decide)) (g := (mkF m 67 #[.val (.int p0_0), .val (.int p0_1), .val (.int p0_2), .val (.int p0_3), .val (.int zqA), .val (.int zqB), .val (.int zqC), .val (.int v6), .val (.ref b8), .val (.ref b22), .unset, .unset] [(.int p0_0), (.ref b8)])) rfl (by rw [hml]; rfl) (argsL := [(.int p0_0)]) (rest := [(.ref b8)]) (lenOf pd_19 rfl) rfl (by show 2 * 0 + _ ≤ _; exact Nat.le_of_eq rfl) (hb hby at_67) (fun _ _ => ⟨rfl, rfl, (by decide : 8 + 2 ≤ _), (by decide : 24 + 5 ≤ _)⟩)
    dsimp only [Pt.U, Pt.locs, Pt.cells, Pt.slots] at X58 l58 y58 z58 st58 hQ58
    rw [l58, y58, z58] at X58
    obtain ⟨sx_58, rfl, N58q, Kc58, ggsx_58, szsx_58⟩ := hQ58
    have ne59 : b8 ≠ sx_58 := Nat.ne_of_lt (Nat.lt_of_lt_of_le F48.lt szsx_58)
    have ne60 : lx_16 ≠ sx_58 := Nat.ne_of_lt (Nat.lt_of_lt_of_le F52.lt szsx_58)
    have ne61 : b22 ≠ sx_58 := Nat.ne_of_lt (Nat.lt_of_lt_of_le G41_0.lt szsx_58)
    have ne62 : lx_41 ≠ sx_58 := Nat.ne_of_lt (Nat.lt_of_lt_of_le G41_4.lt szsx_58)
    have Zs58 : n0 ≤ T58.heap.size := Nat.le_trans Zs41 Kc58.1
    have sf63 := Safe.keep Kc58 sf0 hCR.1 sf45
    have sf64 := Safe.keep Kc58 sf0 hCR.1 sf46
    have hCR := hCR.trans (CHr.keep Kc58 sf0 hCR.1)
    have hk := Nat.le_trans hk Kc58.1
    have F65 := own_bkeep F47 Kc58 all0 all0
    have F66 := F48.keep Kc58
    have F67 := F49.keep Kc58 nin0
    have F68 := F50.keep Kc58 nin0
    have F69 := F51.keep Kc58 nin0
    have F70 := F52.keep Kc58
    have F71 := F53.keep Kc58 nin0
    have F72 := F54.keep Kc58 nin0
    have F73 := F55.keep Kc58 nin0
    have F74 := G41_0.keep Kc58
    have F75 := G41_1.keep Kc58 nin0
    have F76 := G41_2.keep Kc58 nin0
    have F77 := G41_3.keep Kc58 nin0
    have F78 := G41_4.keep Kc58
    have F79 := G41_5.keep Kc58 nin0
    have F80 := G41_6.keep Kc58 nin0
    have F81 := G41_7.keep Kc58 nin0
    have N58 := Fr.app N41 N58q
    obtain ⟨_, _, ⟨T82, L82, k82, n82⟩, -, X82, ⟨Lc82, hQ82, l82, y82, z82⟩, st82⟩ := Jvm.LawKit.callS X58 hx (y := (⟨"com/example/batchrake/batchrake/DeleteReportHasFailuresPinLaw", "pick", "(I)Lcom/example/batchrake/batchrake/Outcome;"⟩ : MethodName)) hown (mvT hZ (wd hw 74 rfl)) (mvT hZ (wd hw 75 rfl)) (mvT hZ (wd hw 53 rfl)) (mvT hZ (wd hw 76 rfl)) (by decide) (backOf (W := 2) (rm11 l Z a0 hw [] zqA u_DELETED u_NOT_FOUND T58.heap n0 Zs58 (own_b2 F65) (own_b3 F65) (own_b5 F65) (own_b15 F65) (own_b16 F65) (own_b17 F65) hg) hZ (wd hw 76 rfl) (wd hw 53 rfl) (by decide) (by decide)) (g := (mkF m 72 #[.val (.int p0_0), .val (.int p0_1), .val (.int p0_2), .val (.int p0_3), .val (.int zqA), .val (.int zqB), .val (.int zqC), .val (.int v6), .val (.ref b8), .val (.ref b22), .unset, .unset] [(.int zqA), (.ref sx_58), (.ref b8)])) rfl (by rw [hml]; rfl) (argsL := [(.int zqA)]) (rest := [(.ref sx_58), (.ref b8)]) (lenOf pd_20 rfl) rfl (by show 2 * 0 + _ ≤ _; exact Nat.le_of_eq rfl) (hb hby at_72) (fun _ _ => ⟨rfl, rfl, (by decide : 10 + 0 ≤ _), (by decide : 29 + 0 ≤ _)⟩)
    dsimp only [Pt.U, Pt.locs, Pt.cells, Pt.slots] at X82 l82 y82 z82 st82 hQ82
    rw [l82, y82, z82] at X82
    obtain ⟨ux_82, rfl, N82q, Kc82, G82_0, G82_1⟩ := hQ82
    have Zs82 : n0 ≤ T82.heap.size := Nat.le_trans Zs58 Kc82.1
    have sf83 := Safe.keep Kc82 sf0 hCR.1 sf63
    have sf84 := Safe.keep Kc82 sf0 hCR.1 sf64
    have hCR := hCR.trans (CHr.keep Kc82 sf0 hCR.1)
    have hk := Nat.le_trans hk Kc82.1
    have F85 := own_bkeep F65 Kc82 all0 all0
    have F86 := F66.keep Kc82
    have F87 := F67.keep Kc82 nin0
    have F88 := F68.keep Kc82 nin0
    have F89 := F69.keep Kc82 nin0
    have F90 := F70.keep Kc82
    have F91 := F71.keep Kc82 nin0
    have F92 := F72.keep Kc82 nin0
    have F93 := F73.keep Kc82 nin0
    have F94 := F74.keep Kc82
    have F95 := F75.keep Kc82 nin0
    have F96 := F76.keep Kc82 nin0
    have F97 := F77.keep Kc82 nin0
    have F98 := F78.keep Kc82
    have F99 := F79.keep Kc82 nin0
    have F100 := F80.keep Kc82 nin0
    have F101 := F81.keep Kc82 nin0
    have N82 := Fr.app N58 N82q
    obtain ⟨cq102, kq102, q102a, q102b, q102c⟩ := isOf hZ rfl F86
    obtain ⟨_, _, ⟨T102, L102, k102, n102⟩, -, X102, ⟨Lc102, hQ102, l102, y102, z102⟩, st102⟩ := X82.virtualBack hx (y := (⟨"com/example/batchrake/batchrake/DeleteReport", "add", "(Ljava/lang/String;Lcom/example/batchrake/batchrake/Outcome;)V"⟩ : MethodName)) (z := (⟨"com/example/batchrake/batchrake/DeleteReport", "add", "(Ljava/lang/String;Lcom/example/batchrake/batchrake/Outcome;)V"⟩ : MethodName)) hown (mvT hZ (wd hw 80 rfl)) (mvT hZ (wd hw 81 rfl)) (notFace_of_selects (args := #[]) (mvT hZ (wd hw 83 rfl))) (mvT hZ (wd hw 83 rfl)) (mvT hZ (wd hw 82 rfl)) (by decide) (backOf (W := 0) (rm39 l Z a0 hw [] b8 sx_58 ux_82 u__SwitchMap_com_example_batchrake_batchrake_Outcome cl_u__SwitchMap_com_example_batchrake_batchrake_Outcome (0 : Int32) (0 : Int32) lx_16 zqA T82.heap n0 Zs82 (own_b4 F85) (own_b19 F85) F86 F87 F88 F89 G82_0 G82_1 hg gg8) hZ (wd hw 84 rfl) (wd hw 3 rfl) (by decide) (by decide)) q102a q102c (g := (mkF m 75 #[.val (.int p0_0), .val (.int p0_1), .val (.int p0_2), .val (.int p0_3), .val (.int zqA), .val (.int zqB), .val (.int zqC), .val (.int v6), .val (.ref b8), .val (.ref b22), .unset, .unset] [(.ref ux_82), (.ref sx_58), (.ref b8)])) rfl (by rw [hml]; rfl) (Steps.refl _) (argsL := [(.ref sx_58), (.ref ux_82)]) (rest := []) (lenOf pd_14 rfl) rfl (by show 2 * 0 + _ ≤ _; exact Nat.le_of_eq rfl) (hb hby at_75) (fun _ _ => ⟨rfl, rfl, (by decide : 10 + 0 ≤ _), (by decide : 29 + 0 ≤ _)⟩)
    dsimp only [Pt.U, Pt.locs, Pt.cells, Pt.slots] at X102 l102 y102 z102 st102 hQ102
    rw [l102, y102, z102] at X102
    obtain ⟨d2_102, n2_102, rfl, N102q, Kc102, G102_0, G102_1, G102_2, G102_3⟩ := hQ102
    have Zs102 : n0 ≤ T102.heap.size := Nat.le_trans Zs82 Kc102.1
    have sf103 := Safe.keep Kc102 (sfS own_safe0 sf0) hCR.1 sf83
    have sf104 := Safe.keep Kc102 (sfS own_safe0 sf0) hCR.1 sf84
    have hCR := hCR.trans (CHr.keep Kc102 (sfS own_safe0 sf0) hCR.1)
    have hk := Nat.le_trans hk Kc102.1
    have F105 := own_bkeep F85 Kc102 (allS gg8 all0) (allS (own_nsE F86) all0)
    have F106 := F90.keep Kc102
    have F107 := F91.keep Kc102 (ninS (Ne.symm ne17) nin0)
    have F108 := F92.keep Kc102 (ninS (Ne.symm ne17) nin0)
    have F109 := F93.keep Kc102 (ninS (Ne.symm ne17) nin0)
    have F110 := F94.keep Kc102
    have F111 := F95.keep Kc102 (ninS (Ne.symm ne23) nin0)
    have F112 := F96.keep Kc102 (ninS (Ne.symm ne23) nin0)
    have F113 := F97.keep Kc102 (ninS (Ne.symm ne23) nin0)
    have F114 := F98.keep Kc102
    have F115 := F99.keep Kc102 (ninS (Ne.symm ne42) nin0)
    have F116 := F100.keep Kc102 (ninS (Ne.symm ne42) nin0)
    have F117 := F101.keep Kc102 (ninS (Ne.symm ne42) nin0)
    have F118 := G82_0.keep Kc102
    have N102 := Fr.app N82 N102q
    have k120 : ∀ t, Steps p.tables e below (T102.setTop (mkF m 78 #[.val (.int p0_0), .val (.int p0_1), .val (.int p0_2), .val (.int p0_3), .val (.int zqA), .val (.int zqB), .val (.int zqC), .val (.int v6), .val (.ref b8), .val (.ref b22), .unset, .unset] [])) t → Steps p.tables e below (s₁.setTop (entryFrame m #[(.int p0_0), (.int p0_1), (.int p0_2), (.int p0_3)] maxLocals)) t := by
      intro t k
      refine k7 t ?_
      refine XS.istore X0.here hx rfl (hb hby at_38) rfl (l' := #[.val (.int p0_0), .val (.int p0_1), .val (.int p0_2), .val (.int p0_3), .val (.int zqA), .val (.int zqB), .val (.int zqC), .val (.int v6), .unset, .unset, .unset, .unset]) rfl ?_
      refine st8 _ ?_
      refine XS.dup X8.here hx rfl (hb hby at_43) rfl rfl ?_
      refine st16.trans ?_
      refine XS.astore X16.here hx rfl (hb hby at_47) rfl rfl (l' := #[.val (.int p0_0), .val (.int p0_1), .val (.int p0_2), .val (.int p0_3), .val (.int zqA), .val (.int zqB), .val (.int zqC), .val (.int v6), .val (.ref b8), .unset, .unset, .unset]) rfl ?_
      refine st22 _ ?_
      show Steps p.tables e below (T22.setTop (mkF m 52 #[.val (.int p0_0), .val (.int p0_1), .val (.int p0_2), .val (.int p0_3), .val (.int zqA), .val (.int zqB), .val (.int zqC), .val (.int v6), .val (.ref b8), .unset, .unset, .unset] [(.ref b22)])) _
      refine XS.dup X22.here hx rfl (hb hby at_52) rfl rfl ?_
      refine st41.trans ?_
      refine XS.astore X41.here hx rfl (hb hby at_56) rfl rfl (l' := #[.val (.int p0_0), .val (.int p0_1), .val (.int p0_2), .val (.int p0_3), .val (.int zqA), .val (.int zqB), .val (.int zqC), .val (.int v6), .val (.ref b8), .val (.ref b22), .unset, .unset]) rfl ?_
      refine XS.iload X41.here hx rfl (hb hby at_58) rfl ?_
      refine XS.iconst X41.here hx rfl (hb hby at_60) ?_
      refine XS.icmpNo X41.here hx rfl (hb hby at_61) rfl (tlt (own_gS _ hg).1).2.1 ?_
      refine XS.aload X41.here hx rfl (hb hby at_64) rfl rfl ?_
      refine XS.iloadN X41.here hx rfl (hb hby at_66) rfl ?_
      refine st58 _ ?_
      refine XS.iload X58.here hx rfl (hb hby at_70) rfl ?_
      refine st82 _ ?_
      refine st102.trans ?_
      exact k
    obtain ⟨t_, o_, ss_, s2_, s3_, v_, L_, hv_, hq_, hf_⟩ := sgB0 hw hEL wS p0_0 p0_1 p0_2 p0_3 zqA zqB zqC v6 b8 lx_16 d2_102 n2_102 (0 : Int32) b22 lx_41 (0 : Int32) (0 : Int32) (0 : Int32) u_DEFAULTCAPACITY_EMPTY_ELEMENTDATA cl_u_DEFAULTCAPACITY_EMPTY_ELEMENTDATA u_DELETED u__SwitchMap_com_example_batchrake_batchrake_Outcome cl_u__SwitchMap_com_example_batchrake_batchrake_Outcome u_CONFLICT u_BAD_REQUEST u_STORE_ERROR u_NOT_FOUND cs mr T102.heap n0 Zs102 F105 G102_0 G102_1 G102_2 G102_3 F106 F107 F108 F109 F110 F111 F112 F113 F114 F115 F116 F117 hcs hmir ne17 ne23 ne42 ne24 ne43 ne44 hd_zqB hd_zqC (own_gS _ hg).2 gg8 gglx_16 gg22 gglx_41 (X102.more (by decide) (by decide)) hx hZ hby hml hown Bd.returns (by first | assumption | exact BodyLoose.notSynchronized (by assumption) | exact Body.notSynchronized (by assumption)) rfl N102 hh hS hk hCR
    exact ⟨t_, o_, k120 _ ss_, s2_, s3_, v_, L_, hv_, hq_, hf_⟩
  · skip
    obtain ⟨_, _, ⟨T121, L121, k121, n121⟩, -, X121, ⟨Lc121, hQ121, l121, y121, z121⟩, st121⟩ := Jvm.LawKit.callS X41 hx (y := (⟨"com/example/batchrake/batchrake/DeleteReportHasFailuresPinLaw", "name", "(I)Ljava/lang/String;"⟩ : MethodName)) hown (mvT hZ (wd hw 51 rfl)) (mvT hZ (wd hw 52 rfl)) (mvT hZ (wd hw 53 rfl)) (mvT hZ (wd hw 54 rfl)) (by decide) (backOf (W := 1) (rm10 l Z a0 hw [] p0_0 cs T41.heap n0 Zs41 (own_b20 F47) hcs) hZ (wd hw 54 rfl) (wd hw 53 rfl) (by decide) (by decide)) (g := (mkF m 67 #[.val (.int p0_0), .val (.int p0_1), .val (.int p0_2), .val (.int p0_3), .val (.int zqA), .val (.int zqB), .val (.int zqC), .val (.int v6), .val (.ref b8), .val (.ref b22), .unset, .unset] [(.int p0_0), (.ref b8)])) rfl (by rw [hml]; rfl) (argsL := [(.int p0_0)]) (rest := [(.ref b8)]) (lenOf pd_19 rfl) rfl (by show 2 * 0 + _ ≤ _; exact Nat.le_of_eq rfl) (hb hby at_67) (fun _ _ => ⟨rfl, rfl, (by decide : 8 + 2 ≤ _), (by decide : 24 + 5 ≤ _)⟩)
    dsimp only [Pt.U, Pt.locs, Pt.cells, Pt.slots] at X121 l121 y121 z121 st121 hQ121
    rw [l121, y121, z121] at X121
    obtain ⟨sx_121, rfl, N121q, Kc121, ggsx_121, szsx_121⟩ := hQ121
    have ne122 : b8 ≠ sx_121 := Nat.ne_of_lt (Nat.lt_of_lt_of_le F48.lt szsx_121)
    have ne123 : lx_16 ≠ sx_121 := Nat.ne_of_lt (Nat.lt_of_lt_of_le F52.lt szsx_121)
    have ne124 : b22 ≠ sx_121 := Nat.ne_of_lt (Nat.lt_of_lt_of_le G41_0.lt szsx_121)
    have ne125 : lx_41 ≠ sx_121 := Nat.ne_of_lt (Nat.lt_of_lt_of_le G41_4.lt szsx_121)
    have Zs121 : n0 ≤ T121.heap.size := Nat.le_trans Zs41 Kc121.1
    have sf126 := Safe.keep Kc121 sf0 hCR.1 sf45
    have sf127 := Safe.keep Kc121 sf0 hCR.1 sf46
    have hCR := hCR.trans (CHr.keep Kc121 sf0 hCR.1)
    have hk := Nat.le_trans hk Kc121.1
    have F128 := own_bkeep F47 Kc121 all0 all0
    have F129 := F48.keep Kc121
    have F130 := F49.keep Kc121 nin0
    have F131 := F50.keep Kc121 nin0
    have F132 := F51.keep Kc121 nin0
    have F133 := F52.keep Kc121
    have F134 := F53.keep Kc121 nin0
    have F135 := F54.keep Kc121 nin0
    have F136 := F55.keep Kc121 nin0
    have F137 := G41_0.keep Kc121
    have F138 := G41_1.keep Kc121 nin0
    have F139 := G41_2.keep Kc121 nin0
    have F140 := G41_3.keep Kc121 nin0
    have F141 := G41_4.keep Kc121
    have F142 := G41_5.keep Kc121 nin0
    have F143 := G41_6.keep Kc121 nin0
    have F144 := G41_7.keep Kc121 nin0
    have N121 := Fr.app N41 N121q
    obtain ⟨_, _, ⟨T145, L145, k145, n145⟩, -, X145, ⟨Lc145, hQ145, l145, y145, z145⟩, st145⟩ := Jvm.LawKit.callS X121 hx (y := (⟨"com/example/batchrake/batchrake/DeleteReportHasFailuresPinLaw", "pick", "(I)Lcom/example/batchrake/batchrake/Outcome;"⟩ : MethodName)) hown (mvT hZ (wd hw 74 rfl)) (mvT hZ (wd hw 75 rfl)) (mvT hZ (wd hw 53 rfl)) (mvT hZ (wd hw 76 rfl)) (by decide) (backOf (W := 2) (rm12 l Z a0 hw [] zqA u_BAD_REQUEST u_CONFLICT u_STORE_ERROR T121.heap n0 Zs121 (own_b9 F128) (own_b10 F128) (own_b11 F128) (own_b6 F128) (own_b7 F128) (own_b8 F128) (own_b12 F128) (own_b13 F128) (own_b14 F128) hg) hZ (wd hw 76 rfl) (wd hw 53 rfl) (by decide) (by decide)) (g := (mkF m 72 #[.val (.int p0_0), .val (.int p0_1), .val (.int p0_2), .val (.int p0_3), .val (.int zqA), .val (.int zqB), .val (.int zqC), .val (.int v6), .val (.ref b8), .val (.ref b22), .unset, .unset] [(.int zqA), (.ref sx_121), (.ref b8)])) rfl (by rw [hml]; rfl) (argsL := [(.int zqA)]) (rest := [(.ref sx_121), (.ref b8)]) (lenOf pd_20 rfl) rfl (by show 2 * 0 + _ ≤ _; exact Nat.le_of_eq rfl) (hb hby at_72) (fun _ _ => ⟨rfl, rfl, (by decide : 10 + 0 ≤ _), (by decide : 29 + 0 ≤ _)⟩)
    dsimp only [Pt.U, Pt.locs, Pt.cells, Pt.slots] at X145 l145 y145 z145 st145 hQ145
    rw [l145, y145, z145] at X145
    obtain ⟨ux_145, rfl, N145q, Kc145, G145_0, G145_1⟩ := hQ145
    have Zs145 : n0 ≤ T145.heap.size := Nat.le_trans Zs121 Kc145.1
    have sf146 := Safe.keep Kc145 sf0 hCR.1 sf126
    have sf147 := Safe.keep Kc145 sf0 hCR.1 sf127
    have hCR := hCR.trans (CHr.keep Kc145 sf0 hCR.1)
    have hk := Nat.le_trans hk Kc145.1
    have F148 := own_bkeep F128 Kc145 all0 all0
    have F149 := F129.keep Kc145
    have F150 := F130.keep Kc145 nin0
    have F151 := F131.keep Kc145 nin0
    have F152 := F132.keep Kc145 nin0
    have F153 := F133.keep Kc145
    have F154 := F134.keep Kc145 nin0
    have F155 := F135.keep Kc145 nin0
    have F156 := F136.keep Kc145 nin0
    have F157 := F137.keep Kc145
    have F158 := F138.keep Kc145 nin0
    have F159 := F139.keep Kc145 nin0
    have F160 := F140.keep Kc145 nin0
    have F161 := F141.keep Kc145
    have F162 := F142.keep Kc145 nin0
    have F163 := F143.keep Kc145 nin0
    have F164 := F144.keep Kc145 nin0
    have N145 := Fr.app N121 N145q
    obtain ⟨cq165, kq165, q165a, q165b, q165c⟩ := isOf hZ rfl F149
    obtain ⟨_, _, ⟨T165, L165, k165, n165⟩, -, X165, ⟨Lc165, hQ165, l165, y165, z165⟩, st165⟩ := X145.virtualBack hx (y := (⟨"com/example/batchrake/batchrake/DeleteReport", "add", "(Ljava/lang/String;Lcom/example/batchrake/batchrake/Outcome;)V"⟩ : MethodName)) (z := (⟨"com/example/batchrake/batchrake/DeleteReport", "add", "(Ljava/lang/String;Lcom/example/batchrake/batchrake/Outcome;)V"⟩ : MethodName)) hown (mvT hZ (wd hw 80 rfl)) (mvT hZ (wd hw 81 rfl)) (notFace_of_selects (args := #[]) (mvT hZ (wd hw 83 rfl))) (mvT hZ (wd hw 83 rfl)) (mvT hZ (wd hw 82 rfl)) (by decide) (backOf (W := 0) (rm40 l Z a0 hw [] b8 sx_121 ux_145 u__SwitchMap_com_example_batchrake_batchrake_Outcome cl_u__SwitchMap_com_example_batchrake_batchrake_Outcome lx_16 zqA (0 : Int32) u_DEFAULTCAPACITY_EMPTY_ELEMENTDATA cl_u_DEFAULTCAPACITY_EMPTY_ELEMENTDATA T145.heap n0 Zs145 (own_b4 F148) (own_b19 F148) F149 F150 G145_0 G145_1 F153 F154 F155 F156 (own_b0 F148) (own_b18 F148) hg (Nat.ne_of_lt (Nat.lt_of_lt_of_le (own_b21 F148) gglx_16)) gglx_16) hZ (wd hw 84 rfl) (wd hw 3 rfl) (by decide) (by decide)) q165a q165c (g := (mkF m 75 #[.val (.int p0_0), .val (.int p0_1), .val (.int p0_2), .val (.int p0_3), .val (.int zqA), .val (.int zqB), .val (.int zqC), .val (.int v6), .val (.ref b8), .val (.ref b22), .unset, .unset] [(.ref ux_145), (.ref sx_121), (.ref b8)])) rfl (by rw [hml]; rfl) (Steps.refl _) (argsL := [(.ref sx_121), (.ref ux_145)]) (rest := []) (lenOf pd_14 rfl) rfl (by show 2 * 0 + _ ≤ _; exact Nat.le_of_eq rfl) (hb hby at_75) (fun _ _ => ⟨rfl, rfl, (by decide : 10 + 2 ≤ _), (by decide : 29 + 12 ≤ _)⟩)
    dsimp only [Pt.U, Pt.locs, Pt.cells, Pt.slots] at X165 l165 y165 z165 st165 hQ165
    rw [l165, y165, z165] at X165
    obtain ⟨fx_165, en_165, kn_165, rfl, N165q, Kc165, ggfx_165, szfx_165, ggen_165, szen_165, G165_0, G165_1, G165_2, G165_3, G165_4, G165_5, G165_6, P165_0⟩ := hQ165
    have ne166 : b8 ≠ fx_165 := Nat.ne_of_lt (Nat.lt_of_lt_of_le F149.lt szfx_165)
    have ne167 : lx_16 ≠ fx_165 := Nat.ne_of_lt (Nat.lt_of_lt_of_le F153.lt szfx_165)
    have ne168 : b22 ≠ fx_165 := Nat.ne_of_lt (Nat.lt_of_lt_of_le F157.lt szfx_165)
    have ne169 : lx_41 ≠ fx_165 := Nat.ne_of_lt (Nat.lt_of_lt_of_le F161.lt szfx_165)
    have ne170 : ux_145 ≠ fx_165 := Nat.ne_of_lt (Nat.lt_of_lt_of_le G145_0.lt szfx_165)
    have ne171 : b8 ≠ en_165 := Nat.ne_of_lt (Nat.lt_of_lt_of_le F149.lt szen_165)
    have ne172 : lx_16 ≠ en_165 := Nat.ne_of_lt (Nat.lt_of_lt_of_le F153.lt szen_165)
    have ne173 : b22 ≠ en_165 := Nat.ne_of_lt (Nat.lt_of_lt_of_le F157.lt szen_165)
    have ne174 : lx_41 ≠ en_165 := Nat.ne_of_lt (Nat.lt_of_lt_of_le F161.lt szen_165)
    have ne175 : ux_145 ≠ en_165 := Nat.ne_of_lt (Nat.lt_of_lt_of_le G145_0.lt szen_165)
    have Zs165 : n0 ≤ T165.heap.size := Nat.le_trans Zs145 Kc165.1
    have sf176 := Safe.keep Kc165 (sfS own_safe0 sf0) hCR.1 sf146
    have sf177 := Safe.keep Kc165 (sfS own_safe0 sf0) hCR.1 sf147
    have hCR := hCR.trans (CHr.keep Kc165 (sfS own_safe0 sf0) hCR.1)
    have hk := Nat.le_trans hk Kc165.1
    have F178 := own_bkeep F148 Kc165 (allS gglx_16 all0) (allS (own_nsE F153) all0)
    have F179 := F149.keep Kc165
    have F180 := F150.keep Kc165 (ninS ne17 nin0)
    have F181 := F151.keep Kc165 (ninS ne17 nin0)
    have F182 := F152.keep Kc165 (ninS ne17 nin0)
    have F183 := F157.keep Kc165
    have F184 := F158.keep Kc165 (ninS (Ne.symm ne24) nin0)
    have F185 := F159.keep Kc165 (ninS (Ne.symm ne24) nin0)
    have F186 := F160.keep Kc165 (ninS (Ne.symm ne24) nin0)
    have F187 := F161.keep Kc165
    have F188 := F162.keep Kc165 (ninS (Ne.symm ne43) nin0)
    have F189 := F163.keep Kc165 (ninS (Ne.symm ne43) nin0)
    have F190 := F164.keep Kc165 (ninS (Ne.symm ne43) nin0)
    have F191 := G145_0.keep Kc165
    have N165 := Fr.app N145 N165q
    have k193 : ∀ t, Steps p.tables e below (T165.setTop (mkF m 78 #[.val (.int p0_0), .val (.int p0_1), .val (.int p0_2), .val (.int p0_3), .val (.int zqA), .val (.int zqB), .val (.int zqC), .val (.int v6), .val (.ref b8), .val (.ref b22), .unset, .unset] [])) t → Steps p.tables e below (s₁.setTop (entryFrame m #[(.int p0_0), (.int p0_1), (.int p0_2), (.int p0_3)] maxLocals)) t := by
      intro t k
      refine k7 t ?_
      refine XS.istore X0.here hx rfl (hb hby at_38) rfl (l' := #[.val (.int p0_0), .val (.int p0_1), .val (.int p0_2), .val (.int p0_3), .val (.int zqA), .val (.int zqB), .val (.int zqC), .val (.int v6), .unset, .unset, .unset, .unset]) rfl ?_
      refine st8 _ ?_
      refine XS.dup X8.here hx rfl (hb hby at_43) rfl rfl ?_
      refine st16.trans ?_
      refine XS.astore X16.here hx rfl (hb hby at_47) rfl rfl (l' := #[.val (.int p0_0), .val (.int p0_1), .val (.int p0_2), .val (.int p0_3), .val (.int zqA), .val (.int zqB), .val (.int zqC), .val (.int v6), .val (.ref b8), .unset, .unset, .unset]) rfl ?_
      refine st22 _ ?_
      show Steps p.tables e below (T22.setTop (mkF m 52 #[.val (.int p0_0), .val (.int p0_1), .val (.int p0_2), .val (.int p0_3), .val (.int zqA), .val (.int zqB), .val (.int zqC), .val (.int v6), .val (.ref b8), .unset, .unset, .unset] [(.ref b22)])) _
      refine XS.dup X22.here hx rfl (hb hby at_52) rfl rfl ?_
      refine st41.trans ?_
      refine XS.astore X41.here hx rfl (hb hby at_56) rfl rfl (l' := #[.val (.int p0_0), .val (.int p0_1), .val (.int p0_2), .val (.int p0_3), .val (.int zqA), .val (.int zqB), .val (.int zqC), .val (.int v6), .val (.ref b8), .val (.ref b22), .unset, .unset]) rfl ?_
      refine XS.iload X41.here hx rfl (hb hby at_58) rfl ?_
      refine XS.iconst X41.here hx rfl (hb hby at_60) ?_
      refine XS.icmpNo X41.here hx rfl (hb hby at_61) rfl (tlt (own_gF _ hg).1).2.1 ?_
      refine XS.aload X41.here hx rfl (hb hby at_64) rfl rfl ?_
      refine XS.iloadN X41.here hx rfl (hb hby at_66) rfl ?_
      refine st121 _ ?_
      refine XS.iload X121.here hx rfl (hb hby at_70) rfl ?_
      refine st145 _ ?_
      refine st165.trans ?_
      exact k
    obtain ⟨t_, o_, ss_, s2_, s3_, v_, L_, hv_, hq_, hf_⟩ := sgB1 hw hEL wS p0_0 p0_1 p0_2 p0_3 zqA zqB zqC v6 b8 lx_16 (0 : Int32) (0 : Int32) ((0 : Int32) + (1 : Int32)) en_165 kn_165 fx_165 b22 lx_41 (0 : Int32) (0 : Int32) (0 : Int32) u_DEFAULTCAPACITY_EMPTY_ELEMENTDATA cl_u_DEFAULTCAPACITY_EMPTY_ELEMENTDATA u_DELETED u__SwitchMap_com_example_batchrake_batchrake_Outcome cl_u__SwitchMap_com_example_batchrake_batchrake_Outcome u_CONFLICT u_BAD_REQUEST u_STORE_ERROR u_NOT_FOUND cs mr T165.heap n0 Zs165 F178 F179 F180 F181 F182 G165_0 G165_1 G165_2 G165_3 G165_4 G165_5 F183 F184 F185 F186 F187 F188 F189 F190 hcs hmir ne17 ne171 ne23 ne42 ne172 ne24 ne43 (Ne.symm ne173) (Ne.symm ne174) ne44 P165_0 hd_zqB hd_zqC (own_gF _ hg).2 gg8 gglx_16 ggen_165 gg22 gglx_41 (X165.more (by decide) (by decide)) hx hZ hby hml hown Bd.returns (by first | assumption | exact BodyLoose.notSynchronized (by assumption) | exact Body.notSynchronized (by assumption)) rfl N165 hh hS hk hCR
    exact ⟨t_, o_, k193 _ ss_, s2_, s3_, v_, L_, hv_, hq_, hf_⟩
  · skip
    have k194 : ∀ t, Steps p.tables e below (T41.setTop (mkF m 78 #[.val (.int p0_0), .val (.int p0_1), .val (.int p0_2), .val (.int p0_3), .val (.int zqA), .val (.int zqB), .val (.int zqC), .val (.int v6), .val (.ref b8), .val (.ref b22), .unset, .unset] [])) t → Steps p.tables e below (s₁.setTop (entryFrame m #[(.int p0_0), (.int p0_1), (.int p0_2), (.int p0_3)] maxLocals)) t := by
      intro t k
      refine k7 t ?_
      refine XS.istore X0.here hx rfl (hb hby at_38) rfl (l' := #[.val (.int p0_0), .val (.int p0_1), .val (.int p0_2), .val (.int p0_3), .val (.int zqA), .val (.int zqB), .val (.int zqC), .val (.int v6), .unset, .unset, .unset, .unset]) rfl ?_
      refine st8 _ ?_
      refine XS.dup X8.here hx rfl (hb hby at_43) rfl rfl ?_
      refine st16.trans ?_
      refine XS.astore X16.here hx rfl (hb hby at_47) rfl rfl (l' := #[.val (.int p0_0), .val (.int p0_1), .val (.int p0_2), .val (.int p0_3), .val (.int zqA), .val (.int zqB), .val (.int zqC), .val (.int v6), .val (.ref b8), .unset, .unset, .unset]) rfl ?_
      refine st22 _ ?_
      show Steps p.tables e below (T22.setTop (mkF m 52 #[.val (.int p0_0), .val (.int p0_1), .val (.int p0_2), .val (.int p0_3), .val (.int zqA), .val (.int zqB), .val (.int zqC), .val (.int v6), .val (.ref b8), .unset, .unset, .unset] [(.ref b22)])) _
      refine XS.dup X22.here hx rfl (hb hby at_52) rfl rfl ?_
      refine st41.trans ?_
      refine XS.astore X41.here hx rfl (hb hby at_56) rfl rfl (l' := #[.val (.int p0_0), .val (.int p0_1), .val (.int p0_2), .val (.int p0_3), .val (.int zqA), .val (.int zqB), .val (.int zqC), .val (.int v6), .val (.ref b8), .val (.ref b22), .unset, .unset]) rfl ?_
      refine XS.iload X41.here hx rfl (hb hby at_58) rfl ?_
      refine XS.iconst X41.here hx rfl (hb hby at_60) ?_
      refine XS.icmpYes X41.here hx rfl (pc0 := 61) (pc' := 78) rfl (hb hby at_61) rfl (flt (own_g5 _ hg).1).2.1 (by decide) (by decide) ?_
      exact k
    obtain ⟨t_, o_, ss_, s2_, s3_, v_, L_, hv_, hq_, hf_⟩ := sgB0 hw hEL wS p0_0 p0_1 p0_2 p0_3 zqA zqB zqC v6 b8 lx_16 (0 : Int32) (0 : Int32) (0 : Int32) b22 lx_41 (0 : Int32) (0 : Int32) (0 : Int32) u_DEFAULTCAPACITY_EMPTY_ELEMENTDATA cl_u_DEFAULTCAPACITY_EMPTY_ELEMENTDATA u_DELETED u__SwitchMap_com_example_batchrake_batchrake_Outcome cl_u__SwitchMap_com_example_batchrake_batchrake_Outcome u_CONFLICT u_BAD_REQUEST u_STORE_ERROR u_NOT_FOUND cs mr T41.heap n0 Zs41 F47 F48 F49 F50 F51 F52 F53 F54 F55 G41_0 G41_1 G41_2 G41_3 G41_4 G41_5 G41_6 G41_7 hcs hmir ne17 ne23 ne42 ne24 ne43 ne44 hd_zqB hd_zqC (own_g5 _ hg).2 gg8 gglx_16 gg22 gglx_41 (X41.more (by decide) (by decide)) hx hZ hby hml hown Bd.returns (by first | assumption | exact BodyLoose.notSynchronized (by assumption) | exact Body.notSynchronized (by assumption)) rfl N41 hh hS hk hCR
    exact ⟨t_, o_, k194 _ ss_, s2_, s3_, v_, L_, hv_, hq_, hf_⟩
set_option maxRecDepth 65536 in
set_option maxHeartbeats 40000000 in
theorem comes_1 {Post : Tables → Env → Array Value → State → Outcome → State → Prop} (hpost : ∀ tb e args s v u, (limb_1_1.after args s (.returned v) u = true ∧ limb_1_2.after args s (.returned v) u = true ∧ True) → ReturnedEndW s (.returned v) u (Jvm.fieldLocs frame_1_writes args s ++ Jvm.arrayLocs frame_1_arrays args s ++ Jvm.staticLocs frame_1_statics s) 48 1216 → Post tb e args s (.returned v) u) :
    ArmFor flags0 classFile x code maxLocals ret World_1 tables_1 room_1 Calls_1 rest_1 Pre_1 Post := by
  intro l hfl _ _ p e ha hc hk s m args below hf hA hF happ hP
  obtain ⟨hcalls, hrest, hpre⟩ := hP
  obtain ⟨-, -, -, hnamed, -, -, -, hat⟩ := (Spec.applies_iff hf).mp happ
  obtain ⟨hg, hn⟩ := and_e (Cond.before_iff.mp (show (Jvm.Cond.and given_1 narrow_1).before args s = true from hpre))
  obtain ⟨gv1, gv2⟩ := and_e hg
  obtain ⟨gv3, gv4⟩ := and_e gv2
  obtain ⟨gv5, gv6⟩ := and_e gv4
  obtain ⟨gv7, gv8⟩ := and_e gv6
  obtain ⟨w0, w1, w2, w3, rfl⟩ : ∃ w0 w1 w2 w3 : Value, args = #[w0, w1, w2, w3] := by
    have hs : args.size = 4 := by simpa [Cond.value, given_1] using gv1
    obtain ⟨L⟩ := args
    match L, hs with
    | [w0, w1, w2, w3], _ => exact ⟨w0, w1, w2, w3, rfl⟩
  have hw := fun d (hd : d ∈ tables_1) => atoms_spec (ws := Jvm.Cond.code x code maxLocals ret :: tables_1) hat d (List.mem_cons_of_mem _ hd)
  have hfit : Fit s := fun {y c} hc i hi => by
    obtain ⟨ha, rfl⟩ := Array.getElem?_eq_some_iff.mp hc
    have q := List.all_eq_true.mp ((Array.all_eq_true_iff_forall_mem.mp hF) _ (Array.getElem_mem ha)) i (List.mem_range.mpr hi)
    simpa [Array.getElem?_eq_getElem hi] using q
  obtain ⟨hsets, hown0⟩ := atoms_of _ (rest_1_c_eq ▸ (show rest_1_c.before _ s = true from hrest))
  have hr0 := Cond.before_iff.mp hown0
  obtain ⟨i0, ei0⟩ := is_v gv3
  obtain rfl : w0 = (.int i0) := Option.some.inj ei0
  obtain ⟨i1, ei1⟩ := is_v gv5
  obtain rfl : w1 = (.int i1) := Option.some.inj ei1
  obtain ⟨i2, ei2⟩ := is_v gv7
  obtain rfl : w2 = (.int i2) := Option.some.inj ei2
  obtain ⟨i3, ei3⟩ := is_v gv8
  obtain rfl : w3 = (.int i3) := Option.some.inj ei3
  obtain ⟨nv1, nv2⟩ := and_e hn
  obtain ⟨nv3, nv4⟩ := and_e nv2
  obtain ⟨nv5, nv6⟩ := and_e nv4
  obtain ⟨nv7, nv8⟩ := and_e nv6
  obtain ⟨nv9, nv10⟩ := and_e nv8
  obtain ⟨nv11, nv12⟩ := and_e nv10
  obtain ⟨nv13, nv14⟩ := and_e nv12
  obtain ⟨nv15, nv16⟩ := and_e nv14
  obtain ⟨nv17, nv18⟩ := and_e nv16
  obtain ⟨nv19, nv20⟩ := and_e nv18
  obtain ⟨nv21, nv22⟩ := and_e nv20
  obtain ⟨nv23, nv24⟩ := and_e nv22
  obtain ⟨nv25, nv26⟩ := and_e nv24
  obtain ⟨nv27, nv28⟩ := and_e nv26
  obtain ⟨nv29, nv30⟩ := and_e nv28
  obtain ⟨nv31, nv32⟩ := and_e nv30
  obtain ⟨u_EMPTY_ELEMENTDATA, ev_u_EMPTY_ELEMENTDATA⟩ := arr_v (Cond.before_iff.mp (hsets _ (List.mem_of_getElem? (i := 3) rfl)))
  obtain ⟨cl_u_EMPTY_ELEMENTDATA, Ar_u_EMPTY_ELEMENTDATA⟩ := Arr.start ev_u_EMPTY_ELEMENTDATA (Cond.before_iff.mp (hsets _ (List.mem_of_getElem? (i := 3) rfl)))
  have S_EMPTY_ELEMENTDATA : Sta s s.heap "java/util/ArrayList" "EMPTY_ELEMENTDATA" "[Ljava/lang/Object;" (.ref u_EMPTY_ELEMENTDATA) := Sta.start ev_u_EMPTY_ELEMENTDATA (Or.inl (hsets _ (List.mem_of_getElem? (i := 1) rfl)))
  have E_u_EMPTY_ELEMENTDATA := Exa.start ev_u_EMPTY_ELEMENTDATA (Cond.before_iff.mp (hsets _ (List.mem_of_getElem? (i := 4) rfl)))
  have e_1 := own_evI (Cond.before_iff.mp (hsets _ (List.mem_of_getElem? (i := 5) rfl)))
  obtain ⟨u_DEFAULTCAPACITY_EMPTY_ELEMENTDATA, ev_u_DEFAULTCAPACITY_EMPTY_ELEMENTDATA⟩ := arr_v (Cond.before_iff.mp (hsets _ (List.mem_of_getElem? (i := 6) rfl)))
  obtain ⟨cl_u_DEFAULTCAPACITY_EMPTY_ELEMENTDATA, Ar_u_DEFAULTCAPACITY_EMPTY_ELEMENTDATA⟩ := Arr.start ev_u_DEFAULTCAPACITY_EMPTY_ELEMENTDATA (Cond.before_iff.mp (hsets _ (List.mem_of_getElem? (i := 6) rfl)))
  have S_DEFAULTCAPACITY_EMPTY_ELEMENTDATA : Sta s s.heap "java/util/ArrayList" "DEFAULTCAPACITY_EMPTY_ELEMENTDATA" "[Ljava/lang/Object;" (.ref u_DEFAULTCAPACITY_EMPTY_ELEMENTDATA) := Sta.start ev_u_DEFAULTCAPACITY_EMPTY_ELEMENTDATA (Or.inr ⟨(wd hw 23 rfl), (hsets _ (List.mem_of_getElem? (i := 2) rfl))⟩)
  have E_u_DEFAULTCAPACITY_EMPTY_ELEMENTDATA := Exa.start ev_u_DEFAULTCAPACITY_EMPTY_ELEMENTDATA (Cond.before_iff.mp (hsets _ (List.mem_of_getElem? (i := 7) rfl)))
  have e_2 := own_evI (Cond.before_iff.mp (hsets _ (List.mem_of_getElem? (i := 8) rfl)))
  obtain ⟨u_DELETED, ev_u_DELETED, E_u_DELETED⟩ := own_ex nv1
  have S_DELETED : Sta s s.heap "com/example/batchrake/batchrake/Outcome" "DELETED" "Lcom/example/batchrake/batchrake/Outcome;" (.ref u_DELETED) := Sta.start ev_u_DELETED (Or.inr ⟨(wd hw 78 rfl), (wd hw 79 rfl)⟩)
  obtain ⟨u__SwitchMap_com_example_batchrake_batchrake_Outcome, ev_u__SwitchMap_com_example_batchrake_batchrake_Outcome⟩ := arr_v nv3
  obtain ⟨cl_u__SwitchMap_com_example_batchrake_batchrake_Outcome, Ar_u__SwitchMap_com_example_batchrake_batchrake_Outcome⟩ := Arr.start ev_u__SwitchMap_com_example_batchrake_batchrake_Outcome nv3
  have S__SwitchMap_com_example_batchrake_batchrake_Outcome : Sta s s.heap "com/example/batchrake/batchrake/DeleteReport$1" "$SwitchMap$com$example$batchrake$batchrake$Outcome" "[I" (.ref u__SwitchMap_com_example_batchrake_batchrake_Outcome) := Sta.start ev_u__SwitchMap_com_example_batchrake_batchrake_Outcome (Or.inr ⟨(wd hw 86 rfl), (wd hw 87 rfl)⟩)
  have e_3 := own_evI nv5
  have e_4 := own_evI nv7
  have F_u_DELETED_ordinal : Fld s s.heap u_DELETED "java/lang/Enum" "ordinal" "I" (.int (0 : Int32)) := own_fldV ev_u_DELETED e_4
  obtain ⟨u_CONFLICT, ev_u_CONFLICT, E_u_CONFLICT⟩ := own_ex nv9
  have S_CONFLICT : Sta s s.heap "com/example/batchrake/batchrake/Outcome" "CONFLICT" "Lcom/example/batchrake/batchrake/Outcome;" (.ref u_CONFLICT) := Sta.start ev_u_CONFLICT (Or.inr ⟨(wd hw 78 rfl), (wd hw 100 rfl)⟩)
  have e_5 := own_evI nv11
  have F_u_CONFLICT_ordinal : Fld s s.heap u_CONFLICT "java/lang/Enum" "ordinal" "I" (.int (3 : Int32)) := own_fldV ev_u_CONFLICT e_5
  obtain ⟨u_BAD_REQUEST, ev_u_BAD_REQUEST, E_u_BAD_REQUEST⟩ := own_ex nv13
  have S_BAD_REQUEST : Sta s s.heap "com/example/batchrake/batchrake/Outcome" "BAD_REQUEST" "Lcom/example/batchrake/batchrake/Outcome;" (.ref u_BAD_REQUEST) := Sta.start ev_u_BAD_REQUEST (Or.inr ⟨(wd hw 78 rfl), (wd hw 148 rfl)⟩)
  have e_6 := own_evI nv15
  have F_u_BAD_REQUEST_ordinal : Fld s s.heap u_BAD_REQUEST "java/lang/Enum" "ordinal" "I" (.int (2 : Int32)) := own_fldV ev_u_BAD_REQUEST e_6
  obtain ⟨u_STORE_ERROR, ev_u_STORE_ERROR, E_u_STORE_ERROR⟩ := own_ex nv17
  have S_STORE_ERROR : Sta s s.heap "com/example/batchrake/batchrake/Outcome" "STORE_ERROR" "Lcom/example/batchrake/batchrake/Outcome;" (.ref u_STORE_ERROR) := Sta.start ev_u_STORE_ERROR (Or.inr ⟨(wd hw 78 rfl), (wd hw 213 rfl)⟩)
  have e_7 := own_evI nv19
  have F_u_STORE_ERROR_ordinal : Fld s s.heap u_STORE_ERROR "java/lang/Enum" "ordinal" "I" (.int (4 : Int32)) := own_fldV ev_u_STORE_ERROR e_7
  obtain ⟨u_NOT_FOUND, ev_u_NOT_FOUND, E_u_NOT_FOUND⟩ := own_ex nv21
  have S_NOT_FOUND : Sta s s.heap "com/example/batchrake/batchrake/Outcome" "NOT_FOUND" "Lcom/example/batchrake/batchrake/Outcome;" (.ref u_NOT_FOUND) := Sta.start ev_u_NOT_FOUND (Or.inr ⟨(wd hw 78 rfl), (wd hw 215 rfl)⟩)
  have e_8 := own_evI nv23
  have F_u_NOT_FOUND_ordinal : Fld s s.heap u_NOT_FOUND "java/lang/Enum" "ordinal" "I" (.int (1 : Int32)) := own_fldV ev_u_NOT_FOUND e_8
  have e_9 := own_evI nv25
  have e_10 := own_evI nv27
  have e_11 := own_evI nv29
  have e_12 := own_evI nv31
  have e_13 := own_evI nv32
  have hl_u_EMPTY_ELEMENTDATA := own_len ev_u_EMPTY_ELEMENTDATA (Ar_u_EMPTY_ELEMENTDATA.fin (Vm.Alike.refl _)) e_1
  have V_u_EMPTY_ELEMENTDATA : Arv s s.heap u_EMPTY_ELEMENTDATA cl_u_EMPTY_ELEMENTDATA.cls (.object "java/lang/Object") (0 : Int32) [] .null := Arv.start hfit Ar_u_EMPTY_ELEMENTDATA hl_u_EMPTY_ELEMENTDATA.1 hl_u_EMPTY_ELEMENTDATA.2 (by decide) rfl trivial
  have hl_u_DEFAULTCAPACITY_EMPTY_ELEMENTDATA := own_len ev_u_DEFAULTCAPACITY_EMPTY_ELEMENTDATA (Ar_u_DEFAULTCAPACITY_EMPTY_ELEMENTDATA.fin (Vm.Alike.refl _)) e_2
  have V_u_DEFAULTCAPACITY_EMPTY_ELEMENTDATA : Arv s s.heap u_DEFAULTCAPACITY_EMPTY_ELEMENTDATA cl_u_DEFAULTCAPACITY_EMPTY_ELEMENTDATA.cls (.object "java/lang/Object") (0 : Int32) [] .null := Arv.start hfit Ar_u_DEFAULTCAPACITY_EMPTY_ELEMENTDATA hl_u_DEFAULTCAPACITY_EMPTY_ELEMENTDATA.1 hl_u_DEFAULTCAPACITY_EMPTY_ELEMENTDATA.2 (by decide) rfl trivial
  have hl_u__SwitchMap_com_example_batchrake_batchrake_Outcome := own_len ev_u__SwitchMap_com_example_batchrake_batchrake_Outcome (Ar_u__SwitchMap_com_example_batchrake_batchrake_Outcome.fin (Vm.Alike.refl _)) e_3
  have V_u__SwitchMap_com_example_batchrake_batchrake_Outcome : Arv s s.heap u__SwitchMap_com_example_batchrake_batchrake_Outcome cl_u__SwitchMap_com_example_batchrake_batchrake_Outcome.cls .int (5 : Int32) [(.int (1 : Int32)), (.int (2 : Int32)), (.int (0 : Int32)), (.int (0 : Int32)), (.int (0 : Int32))] (.int (0 : Int32)) := Arv.start hfit Ar_u__SwitchMap_com_example_batchrake_batchrake_Outcome hl_u__SwitchMap_com_example_batchrake_batchrake_Outcome.1 hl_u__SwitchMap_com_example_batchrake_batchrake_Outcome.2 (by decide) rfl ⟨(elem_in e_9 ev_u__SwitchMap_com_example_batchrake_batchrake_Outcome (Term.int_eval _) Ar_u__SwitchMap_com_example_batchrake_batchrake_Outcome.1).2, (elem_in e_10 ev_u__SwitchMap_com_example_batchrake_batchrake_Outcome (Term.int_eval _) Ar_u__SwitchMap_com_example_batchrake_batchrake_Outcome.1).2, (elem_in e_11 ev_u__SwitchMap_com_example_batchrake_batchrake_Outcome (Term.int_eval _) Ar_u__SwitchMap_com_example_batchrake_batchrake_Outcome.1).2, (elem_in e_12 ev_u__SwitchMap_com_example_batchrake_batchrake_Outcome (Term.int_eval _) Ar_u__SwitchMap_com_example_batchrake_batchrake_Outcome.1).2, (elem_in e_13 ev_u__SwitchMap_com_example_batchrake_batchrake_Outcome (Term.int_eval _) Ar_u__SwitchMap_com_example_batchrake_batchrake_Outcome.1).2, trivial⟩
  obtain ⟨cs, ev_cs⟩ := is_v (Cond.before_iff.mp (hsets _ (List.mem_of_getElem? (i := 10) rfl)))
  have Sc : Sta s s.heap "java/lang/String" "COMPACT_STRINGS" "Z" (.int cs) := Sta.start ev_cs (Or.inl (hsets _ (List.mem_of_getElem? (i := 9) rfl)))
  have hcs : ¬ (cs = (0 : Int32)) := gotF (Cond.eq_ints ev_cs (Term.int_eval _)) (not_v (Cond.before_iff.mp (hsets _ (List.mem_of_getElem? (i := 11) rfl))))
  obtain ⟨cm, km, mr, hm1, hm2, hm3, cem, hm4, hm5⟩ := hcalls.1
  have hmir : Mir s "[Ljava/lang/Object;" mr := ⟨cm, km, hm1, hm2, hm3, cem, hm4, hm5⟩
  have B0 : own_base s s.heap.size s.heap u_DEFAULTCAPACITY_EMPTY_ELEMENTDATA cl_u_DEFAULTCAPACITY_EMPTY_ELEMENTDATA u_DELETED u__SwitchMap_com_example_batchrake_batchrake_Outcome cl_u__SwitchMap_com_example_batchrake_batchrake_Outcome u_CONFLICT u_BAD_REQUEST u_STORE_ERROR u_NOT_FOUND cs := ⟨S_DEFAULTCAPACITY_EMPTY_ELEMENTDATA, E_u_DEFAULTCAPACITY_EMPTY_ELEMENTDATA, S_DELETED, E_u_DELETED, S__SwitchMap_com_example_batchrake_batchrake_Outcome, F_u_DELETED_ordinal, S_CONFLICT, E_u_CONFLICT, F_u_CONFLICT_ordinal, S_BAD_REQUEST, E_u_BAD_REQUEST, F_u_BAD_REQUEST_ordinal, S_STORE_ERROR, E_u_STORE_ERROR, F_u_STORE_ERROR_ordinal, S_NOT_FOUND, E_u_NOT_FOUND, F_u_NOT_FOUND_ordinal, V_u_DEFAULTCAPACITY_EMPTY_ELEMENTDATA, V_u__SwitchMap_com_example_batchrake_batchrake_Outcome, Sc, E_u_DEFAULTCAPACITY_EMPTY_ELEMENTDATA.lt, V_u__SwitchMap_com_example_batchrake_batchrake_Outcome.lt, E_u_DELETED.lt, E_u_NOT_FOUND.lt, E_u_BAD_REQUEST.lt, E_u_CONFLICT.lt, E_u_STORE_ERROR.lt⟩
  have hEL : EW s #[.int i0, .int i1, .int i2, .int i3] consts_1 := EW.nil
  have wS : ∀ a ∈ Bundle.stringAtoms, a.before _ s = true := fun d hd => by
    simp only [Bundle.stringAtoms, Bundle.sN, List.mem_cons, List.not_mem_nil, or_false] at hd
    rcases hd with rfl | rfl | rfl | rfl | rfl | rfl | rfl
    · exact (wd hw 8 rfl)
    · exact (wd hw 9 rfl)
    · exact (wd hw 10 rfl)
    · exact (wd hw 11 rfl)
    · exact (wd hw 12 rfl)
    · exact (wd hw 13 rfl)
    · exact (wd hw 14 rfl)
  have hCH : CHv s consts_1 s.vm s.heap := own_ch0
  obtain ⟨n, o, h1, h2, h3, _, L, rfl, ⟨rfl, N⟩, -, hq⟩ := rm0 l s _ hw tables_1 hEL wS i0 i1 i2 i3 u_DEFAULTCAPACITY_EMPTY_ELEMENTDATA cl_u_DEFAULTCAPACITY_EMPTY_ELEMENTDATA u_DELETED u__SwitchMap_com_example_batchrake_batchrake_Outcome cl_u__SwitchMap_com_example_batchrake_batchrake_Outcome u_CONFLICT u_BAD_REQUEST u_STORE_ERROR u_NOT_FOUND cs mr s.heap s.heap.size (Nat.le_refl _) B0 hcs hmir p e ha hc hk s m _ below hf ((Spec.applies_iff_loose hf).mp happ).1 ⟨rfl, State.Warmed39.refl s, rfl, hCH⟩ trivial
  refine ⟨n, _, h1, h2, h3, hpost _ _ _ _ _ _ ⟨Cond.after_iff.mpr rfl, Cond.after_iff.mpr (eq_i res_at (Term.int_eval (1)) rfl), trivial⟩ ⟨hq.1, hq.2.1, hq.2.2.1, (hq.2.2.2.sift fun y hy => Or.inr (N y hy)).mono (by decide) (by decide)⟩⟩
theorem main_1_1 : Claimed_1_1 := comes_1 fun _ _ _ _ _ _ h hF => ⟨h.1, hF⟩
theorem main_1_2 : Claimed_1_2 := comes_1 fun _ _ _ _ _ _ h hF => ⟨h.2.1, hF⟩
end Jvm.Pilot.@@N@@
namespace Jvm.Pilot.@@N@@
open Jvm Jvm.ClassFile Sem Op Lib Jvm.Free Jvm.Stand Jvm.Pilot.@@N@@.Jvm.D
/-! MADE BY PROGRAM (witnessworld.py) out of the Statement's table words and the real class files: 34 classes; the members and pool entries that the words name. The judged class is class 1, her method 4. -/
namespace start1
open Jvm.ClassFile
def u (s : String) : CpInfo := .utf8 (stringToUtf16 s)
/-- a pool by its gaps: so many unusable entries, then the entry; so many at the end -/
def gap : Nat → List CpInfo → List CpInfo
  | 0, r => r
  | n + 1, r => .unusable :: gap n r
def poolList (es : List (Nat × CpInfo)) (last : Nat) : List CpInfo := es.foldr (fun e r => gap e.1 (e.2 :: r)) (gap last [])
def pool (es : List (Nat × CpInfo)) (last : Nat) : Array CpInfo := ⟨poolList es last⟩
def fileOf (pool : Array CpInfo) (this : Nat) (attrs : Array Attribute := #[]) (ms : Array MethodInfo := #[]) (fl : Nat := 33) (sup : Nat := 0) (ifs : Array Nat := #[]) (fds : Array FieldInfo := #[]) : ClassFile where
  minorVersion := 0
  majorVersion := 65
  constantPool := pool
  accessFlags := fl
  thisClass := this
  superClass := sup
  interfaces := ifs
  fields := fds
  methods := ms
  attributes := attrs
def plain (name : String) (sup : Option ClassId) : Class where
  name := name
  kind := .ordinary
  loader := none
  accessFlags := 33
  super := sup
  interfaces := #[]
  cf := none
  fields := #[]
  methods := #[]
  instanceTypes := #[]
  staticTypes := #[]
  resolved := #[]
  callSites := []
  init := .initialized
  statics := none
  mirror := none

def pool0 : Array CpInfo := pool [(5, u "<init>"), (0, u "()V"), (1, .class_ 10), (1, u "java/lang/Object"), (0, u "getClass"), (0, u "()Ljava/lang/Class;")] 111

def k0c0 : Code := { maxStack := 0, maxLocals := 1, code := object_method_1_code, exceptionTable := #[], attributes := #[] }
def k0m0 : Method := { name := "<init>", desc := "()V", sig := { parameters := [], returnType := none }, accessFlags := 1, code := some k0c0 }
def k0m1 : Method := { name := "getClass", desc := "()Ljava/lang/Class;", sig := { parameters := [], returnType := some (.object "java/lang/Class") }, accessFlags := 273, code := none }
/-- java/lang/Object -/
def k0 : Class := { plain "java/lang/Object" none with
  accessFlags := 33
  interfaces := #[]
  cf := some (fileOf pool0 8 #[] #[{ accessFlags := 1, nameIndex := 5, descriptorIndex := 6, attributes := #[] }, { accessFlags := 273, nameIndex := 11, descriptorIndex := 12, attributes := #[] }] 33 0 #[] #[])
  fields := #[]
  methods := #[k0m0, k0m1]
  instanceTypes := #[]
  staticTypes := #[]
  resolved := Array.replicate 124 none
  statics := none }

def pool1 : Array CpInfo := pool [(2, .class_ 4), (0, .nameAndType 5 6), (0, u "java/lang/Object"), (0, u "<init>"), (0, u "()V"), (0, .fieldref 8 9), (0, .class_ 10), (0, .nameAndType 11 12), (0, u "com/example/batchrake/batchrake/Outcome"), (0, u "DELETED"), (0, u "Lcom/example/batchrake/batchrake/Outcome;"), (0, .fieldref 8 14), (0, .nameAndType 15 12), (0, u "NOT_FOUND"), (0, .fieldref 8 17), (0, .nameAndType 18 12), (0, u "BAD_REQUEST"), (0, .fieldref 8 20), (0, .nameAndType 21 12), (0, u "CONFLICT"), (0, .fieldref 8 23), (0, .nameAndType 24 12), (0, u "STORE_ERROR"), (0, .methodref 26 27), (0, .class_ 28), (0, .nameAndType 29 30), (0, u "java/lang/String"), (0, u "valueOf"), (0, u "(C)Ljava/lang/String;"), (0, .integer 2147483647), (0, .class_ 33), (0, u "com/example/batchrake/batchrake/DeleteReport"), (0, .methodref 32 3), (0, .methodref 36 37), (0, .class_ 38), (0, .nameAndType 39 40), (0, u "com/example/batchrake/batchrake/DeleteReportHasFailuresPinLaw"), (0, u "name"), (0, u "(I)Ljava/lang/String;"), (0, .methodref 36 42), (0, .nameAndType 43 44), (0, u "pick"), (0, u "(I)Lcom/example/batchrake/batchrake/Outcome;"), (0, .methodref 32 46), (0, .nameAndType 47 48), (0, u "add"), (0, u "(Ljava/lang/String;Lcom/example/batchrake/batchrake/Outcome;)V"), (0, .methodref 32 50), (0, .nameAndType 47 51), (0, u "(Lcom/example/batchrake/batchrake/DeleteReport;)V"), (0, .methodref 36 53), (0, .nameAndType 54 55), (0, u "fails"), (0, u "(I)Z"), (0, .methodref 32 57), (0, .nameAndType 58 59), (0, u "hasFailures"), (0, u "()Z"), (3, u "law"), (0, u "(IIII)Z")] 2

def k1m0 : Method := { name := "<init>", desc := "()V", sig := { parameters := [], returnType := none }, accessFlags := 1, code := none }
def k1c1 : Code := { maxStack := 2, maxLocals := 1, code := method_2_code, exceptionTable := #[], attributes := #[] }
def k1m1 : Method := { name := "pick", desc := "(I)Lcom/example/batchrake/batchrake/Outcome;", sig := { parameters := [.int], returnType := some (.object "com/example/batchrake/batchrake/Outcome") }, accessFlags := 10, code := some k1c1 }
def k1c2 : Code := { maxStack := 2, maxLocals := 1, code := method_3_code, exceptionTable := #[], attributes := #[] }
def k1m2 : Method := { name := "name", desc := "(I)Ljava/lang/String;", sig := { parameters := [.int], returnType := some (.object "java/lang/String") }, accessFlags := 10, code := some k1c2 }
def k1c3 : Code := { maxStack := 2, maxLocals := 1, code := method_4_code, exceptionTable := #[], attributes := #[] }
def k1m3 : Method := { name := "fails", desc := "(I)Z", sig := { parameters := [.int], returnType := some .boolean }, accessFlags := 10, code := some k1c3 }
def k1c4 : Code := { maxStack := 3, maxLocals := 12, code := code, exceptionTable := #[], attributes := #[] }
def k1m4 : Method := { name := "law", desc := "(IIII)Z", sig := { parameters := [.int, .int, .int, .int], returnType := some .boolean }, accessFlags := 9, code := some k1c4 }
/-- com/example/batchrake/batchrake/DeleteReportHasFailuresPinLaw -/
def k1 : Class := { plain "com/example/batchrake/batchrake/DeleteReportHasFailuresPinLaw" (some 0) with
  accessFlags := 49
  interfaces := #[]
  cf := some (fileOf pool1 36 #[] #[{ accessFlags := 1, nameIndex := 5, descriptorIndex := 6, attributes := #[] }, { accessFlags := 10, nameIndex := 43, descriptorIndex := 44, attributes := #[] }, { accessFlags := 10, nameIndex := 39, descriptorIndex := 40, attributes := #[] }, { accessFlags := 10, nameIndex := 54, descriptorIndex := 55, attributes := #[] }, { accessFlags := 9, nameIndex := 63, descriptorIndex := 64, attributes := #[] }] 49 2 #[] #[])
  fields := #[]
  methods := #[k1m0, k1m1, k1m2, k1m3, k1m4]
  instanceTypes := #[]
  staticTypes := #[]
  resolved := Array.replicate 67 none
  statics := none }

def pool2 : Array CpInfo := pool [(1, .string 2), (0, u ""), (0, .methodref 4 5), (0, .class_ 6), (0, .nameAndType 7 8), (0, u "com/example/batchrake/batchrake/DeleteReport"), (0, u "<init>"), (0, u "(Ljava/lang/String;Ljava/lang/String;)V"), (0, .methodref 10 11), (0, .class_ 12), (0, .nameAndType 7 13), (0, u "java/lang/Object"), (0, u "()V"), (0, .class_ 15), (0, u "java/util/ArrayList"), (0, .methodref 14 11), (0, .fieldref 4 18), (0, .nameAndType 19 20), (0, u "failures"), (0, u "Ljava/util/List;"), (0, .fieldref 4 22), (0, .nameAndType 23 24), (0, u "refusalStatus"), (0, u "Ljava/lang/String;"), (0, .fieldref 4 26), (0, .nameAndType 27 24), (0, u "refusalReason"), (0, .fieldref 29 30), (0, .class_ 31), (0, .nameAndType 32 33), (0, u "com/example/batchrake/batchrake/DeleteReport$1"), (0, u "$SwitchMap$com$example$batchrake$batchrake$Outcome"), (0, u "[I"), (0, .methodref 35 36), (0, .class_ 37), (0, .nameAndType 38 39), (0, u "com/example/batchrake/batchrake/Outcome"), (0, u "ordinal"), (0, u "()I"), (0, .fieldref 4 41), (0, .nameAndType 42 43), (0, u "deleted"), (0, u "I"), (0, .fieldref 4 45), (0, .nameAndType 46 43), (0, u "notFound"), (0, .class_ 48), (0, u "com/example/batchrake/batchrake/DeleteReport$Failure"), (0, .methodref 47 50), (0, .nameAndType 7 51), (0, u "(Ljava/lang/String;Lcom/example/batchrake/batchrake/Outcome;)V"), (0, .interfaceMethodref 53 54), (0, .class_ 55), (0, .nameAndType 56 57), (0, u "java/util/List"), (0, u "add"), (0, u "(Ljava/lang/Object;)Z"), (0, .interfaceMethodref 53 59), (0, .nameAndType 60 61), (0, u "addAll"), (0, u "(Ljava/util/Collection;)Z"), (0, .interfaceMethodref 53 63), (0, .nameAndType 64 65), (0, u "isEmpty"), (0, u "()Z"), (94, u "OK"), (1, u "BAD_GATEWAY"), (0, u "NAME"), (7, u "(Lcom/example/batchrake/batchrake/DeleteReport;)V"), (0, u "hasFailures")] 29

def k2c0 : Code := { maxStack := 3, maxLocals := 1, code := prog_1_method_1_code, exceptionTable := #[], attributes := #[] }
def k2m0 : Method := { name := "<init>", desc := "()V", sig := { parameters := [], returnType := none }, accessFlags := 0, code := some k2c0 }
def k2c1 : Code := { maxStack := 3, maxLocals := 3, code := prog_1_method_2_code, exceptionTable := #[], attributes := #[] }
def k2m1 : Method := { name := "<init>", desc := "(Ljava/lang/String;Ljava/lang/String;)V", sig := { parameters := [(.object "java/lang/String"), (.object "java/lang/String")], returnType := none }, accessFlags := 2, code := some k2c1 }
def k2c2 : Code := { maxStack := 5, maxLocals := 3, code := prog_1_method_4_code, exceptionTable := #[], attributes := #[] }
def k2m2 : Method := { name := "add", desc := "(Ljava/lang/String;Lcom/example/batchrake/batchrake/Outcome;)V", sig := { parameters := [(.object "java/lang/String"), (.object "com/example/batchrake/batchrake/Outcome")], returnType := none }, accessFlags := 0, code := some k2c2 }
def k2c3 : Code := { maxStack := 3, maxLocals := 2, code := prog_1_method_5_code, exceptionTable := #[], attributes := #[] }
def k2m3 : Method := { name := "add", desc := "(Lcom/example/batchrake/batchrake/DeleteReport;)V", sig := { parameters := [(.object "com/example/batchrake/batchrake/DeleteReport")], returnType := none }, accessFlags := 0, code := some k2c3 }
def k2c4 : Code := { maxStack := 1, maxLocals := 1, code := prog_1_method_6_code, exceptionTable := #[], attributes := #[] }
def k2m4 : Method := { name := "hasFailures", desc := "()Z", sig := { parameters := [], returnType := some .boolean }, accessFlags := 0, code := some k2c4 }
/-- com/example/batchrake/batchrake/DeleteReport -/
def k2 : Class := { plain "com/example/batchrake/batchrake/DeleteReport" (some 0) with
  accessFlags := 48
  interfaces := #[]
  cf := some (fileOf pool2 4 #[.nestMembers #[29, 47]] #[{ accessFlags := 0, nameIndex := 7, descriptorIndex := 13, attributes := #[] }, { accessFlags := 2, nameIndex := 7, descriptorIndex := 8, attributes := #[] }, { accessFlags := 0, nameIndex := 56, descriptorIndex := 51, attributes := #[] }, { accessFlags := 0, nameIndex := 56, descriptorIndex := 171, attributes := #[] }, { accessFlags := 0, nameIndex := 172, descriptorIndex := 65, attributes := #[] }] 48 10 #[] #[{ accessFlags := 26, nameIndex := 160, descriptorIndex := 24, attributes := #[] }, { accessFlags := 26, nameIndex := 162, descriptorIndex := 24, attributes := #[] }, { accessFlags := 26, nameIndex := 163, descriptorIndex := 24, attributes := #[] }, { accessFlags := 2, nameIndex := 42, descriptorIndex := 43, attributes := #[] }, { accessFlags := 2, nameIndex := 46, descriptorIndex := 43, attributes := #[] }, { accessFlags := 18, nameIndex := 19, descriptorIndex := 20, attributes := #[] }, { accessFlags := 18, nameIndex := 23, descriptorIndex := 24, attributes := #[] }, { accessFlags := 18, nameIndex := 27, descriptorIndex := 24, attributes := #[] }])
  fields := #[{ name := "OK", type := (.object "java/lang/String"), accessFlags := 26, slot := 0, constantValue := 0 }, { name := "BAD_GATEWAY", type := (.object "java/lang/String"), accessFlags := 26, slot := 1, constantValue := 0 }, { name := "NAME", type := (.object "java/lang/String"), accessFlags := 26, slot := 2, constantValue := 0 }, { name := "deleted", type := .int, accessFlags := 2, slot := 0, constantValue := 0 }, { name := "notFound", type := .int, accessFlags := 2, slot := 1, constantValue := 0 }, { name := "failures", type := (.object "java/util/List"), accessFlags := 18, slot := 2, constantValue := 0 }, { name := "refusalStatus", type := (.object "java/lang/String"), accessFlags := 18, slot := 3, constantValue := 0 }, { name := "refusalReason", type := (.object "java/lang/String"), accessFlags := 18, slot := 4, constantValue := 0 }]
  methods := #[k2m0, k2m1, k2m2, k2m3, k2m4]
  instanceTypes := #[.int, .int, (.object "java/util/List"), (.object "java/lang/String"), (.object "java/lang/String")]
  staticTypes := #[(.object "java/lang/String"), (.object "java/lang/String"), (.object "java/lang/String")]
  resolved := Array.replicate 202 none
  statics := none }

def pool3 : Array CpInfo := pool [(1, .class_ 2), (0, u "java/io/Serializable"), (0, .class_ 4), (0, u "java/lang/Object")] 2

/-- java/io/Serializable -/
def k3 : Class := { plain "java/io/Serializable" (some 0) with
  accessFlags := 1537
  interfaces := #[]
  cf := some (fileOf pool3 1 #[] #[] 1537 3 #[] #[])
  fields := #[]
  methods := #[]
  instanceTypes := #[]
  staticTypes := #[]
  resolved := Array.replicate 7 none
  statics := none }

def pool4 : Array CpInfo := pool [(1, .class_ 2), (0, u "java/lang/Comparable"), (0, .class_ 4), (0, u "java/lang/Object")] 7

/-- java/lang/Comparable -/
def k4 : Class := { plain "java/lang/Comparable" (some 0) with
  accessFlags := 1537
  interfaces := #[]
  cf := some (fileOf pool4 1 #[] #[] 1537 3 #[] #[])
  fields := #[]
  methods := #[]
  instanceTypes := #[]
  staticTypes := #[]
  resolved := Array.replicate 12 none
  statics := none }

def pool5 : Array CpInfo := pool [(2, .class_ 4), (1, u "java/lang/CharSequence"), (42, .class_ 48), (0, u "java/lang/CharSequence$1CodePointIterator"), (10, .class_ 60), (0, u "java/lang/CharSequence$1CharIterator"), (5, .class_ 67), (0, u "java/lang/Object")] 63

/-- java/lang/CharSequence -/
def k5 : Class := { plain "java/lang/CharSequence" (some 0) with
  accessFlags := 1537
  interfaces := #[]
  cf := some (fileOf pool5 2 #[.nestMembers #[47, 59]] #[] 1537 66 #[] #[])
  fields := #[]
  methods := #[]
  instanceTypes := #[]
  staticTypes := #[]
  resolved := Array.replicate 131 none
  statics := none }

def pool6 : Array CpInfo := pool [(1, .class_ 2), (0, u "java/lang/constant/Constable"), (0, .class_ 4), (0, u "java/lang/Object")] 6

/-- java/lang/constant/Constable -/
def k6 : Class := { plain "java/lang/constant/Constable" (some 0) with
  accessFlags := 1537
  interfaces := #[]
  cf := some (fileOf pool6 1 #[] #[] 1537 3 #[] #[])
  fields := #[]
  methods := #[]
  instanceTypes := #[]
  staticTypes := #[]
  resolved := Array.replicate 11 none
  statics := none }

def pool7 : Array CpInfo := pool [(1, .class_ 2), (0, u "java/lang/constant/ConstantDesc"), (0, .class_ 4), (0, u "java/lang/Object")] 32

/-- java/lang/constant/ConstantDesc -/
def k7 : Class := { plain "java/lang/constant/ConstantDesc" (some 0) with
  accessFlags := 1537
  interfaces := #[]
  cf := some (fileOf pool7 1 #[] #[] 1537 3 #[] #[])
  fields := #[]
  methods := #[]
  instanceTypes := #[]
  staticTypes := #[]
  resolved := Array.replicate 37 none
  statics := none }

def pool8 : Array CpInfo := pool [(1, .methodref 2 3), (0, .class_ 4), (0, .nameAndType 5 6), (0, u "java/lang/Object"), (0, u "<init>"), (0, u "()V"), (2, .fieldref 10 11), (0, .class_ 12), (0, .nameAndType 13 14), (0, u "java/lang/String"), (0, u "value"), (0, u "[B"), (0, .fieldref 10 16), (0, .nameAndType 17 18), (0, u "coder"), (0, u "B"), (2, u "hash"), (0, u "I"), (2, u "hashIsZero"), (0, u "Z"), (11, .fieldref 10 39), (0, .nameAndType 40 26), (0, u "COMPACT_STRINGS"), (12, u "toBytes"), (53, .class_ 109), (1, u "java/lang/StringLatin1"), (99, .methodref 10 210), (0, .nameAndType 5 211), (0, u "([BB)V"), (157, u "(C)Z"), (205, .class_ 576), (0, u "java/lang/CharSequence"), (22, u "CASE_INSENSITIVE_ORDER"), (0, u "Ljava/util/Comparator;"), (181, u "valueOf"), (0, u "(C)Ljava/lang/String;"), (231, .methodref 107 1016), (0, .nameAndType 1017 369), (0, u "canEncode"), (0, .methodref 107 1019), (0, .nameAndType 53 1020), (0, u "(C)[B"), (80, u "serialPersistentFields"), (0, u "[Ljava/io/ObjectStreamField;"), (0, .class_ 1104), (0, u "java/lang/String$CaseInsensitiveComparator"), (1, .class_ 1107), (0, u "java/io/Serializable"), (0, .class_ 1109), (0, u "java/lang/Comparable"), (0, .class_ 1111), (0, u "java/lang/constant/Constable"), (0, .class_ 1113), (0, u "java/lang/constant/ConstantDesc"), (2, u "serialVersionUID"), (0, u "J"), (3, u "REPL"), (0, u "C"), (2, u "LATIN1"), (1, u "UTF16")] 323

def k8m0 : Method := { name := "<init>", desc := "()V", sig := { parameters := [], returnType := none }, accessFlags := 1, code := none }
def k8c1 : Code := { maxStack := 4, maxLocals := 1, code := jdk_42_method_139_code, exceptionTable := #[], attributes := #[] }
def k8m1 : Method := { name := "valueOf", desc := "(C)Ljava/lang/String;", sig := { parameters := [.char], returnType := some (.object "java/lang/String") }, accessFlags := 9, code := some k8c1 }
def k8c2 : Code := { maxStack := 2, maxLocals := 3, code := jdk_42_method_151_code, exceptionTable := #[], attributes := #[] }
def k8m2 : Method := { name := "<init>", desc := "([BB)V", sig := { parameters := [(.array .byte), .byte], returnType := none }, accessFlags := 0, code := some k8c2 }
/-- java/lang/String -/
def k8 : Class := { plain "java/lang/String" (some 0) with
  accessFlags := 49
  interfaces := #[3, 4, 5, 6, 7]
  cf := some (fileOf pool8 10 #[.nestMembers #[1103]] #[{ accessFlags := 1, nameIndex := 5, descriptorIndex := 6, attributes := #[] }, { accessFlags := 9, nameIndex := 782, descriptorIndex := 783, attributes := #[] }, { accessFlags := 0, nameIndex := 5, descriptorIndex := 211, attributes := #[] }] 49 2 #[1106, 1108, 575, 1110, 1112] #[{ accessFlags := 18, nameIndex := 13, descriptorIndex := 14, attributes := #[] }, { accessFlags := 18, nameIndex := 17, descriptorIndex := 18, attributes := #[] }, { accessFlags := 2, nameIndex := 21, descriptorIndex := 22, attributes := #[] }, { accessFlags := 2, nameIndex := 25, descriptorIndex := 26, attributes := #[] }, { accessFlags := 26, nameIndex := 1116, descriptorIndex := 1117, attributes := #[] }, { accessFlags := 24, nameIndex := 40, descriptorIndex := 26, attributes := #[] }, { accessFlags := 26, nameIndex := 1101, descriptorIndex := 1102, attributes := #[] }, { accessFlags := 26, nameIndex := 1121, descriptorIndex := 1122, attributes := #[] }, { accessFlags := 25, nameIndex := 599, descriptorIndex := 600, attributes := #[] }, { accessFlags := 24, nameIndex := 1125, descriptorIndex := 18, attributes := #[] }, { accessFlags := 24, nameIndex := 1127, descriptorIndex := 18, attributes := #[] }])
  fields := #[{ name := "value", type := (.array .byte), accessFlags := 18, slot := 0, constantValue := 0 }, { name := "coder", type := .byte, accessFlags := 18, slot := 1, constantValue := 0 }, { name := "hash", type := .int, accessFlags := 2, slot := 2, constantValue := 0 }, { name := "hashIsZero", type := .boolean, accessFlags := 2, slot := 3, constantValue := 0 }, { name := "serialVersionUID", type := .long, accessFlags := 26, slot := 0, constantValue := 0 }, { name := "COMPACT_STRINGS", type := .boolean, accessFlags := 24, slot := 1, constantValue := 0 }, { name := "serialPersistentFields", type := (.array (.object "java/io/ObjectStreamField")), accessFlags := 26, slot := 2, constantValue := 0 }, { name := "REPL", type := .char, accessFlags := 26, slot := 3, constantValue := 0 }, { name := "CASE_INSENSITIVE_ORDER", type := (.object "java/util/Comparator"), accessFlags := 25, slot := 4, constantValue := 0 }, { name := "LATIN1", type := .byte, accessFlags := 24, slot := 5, constantValue := 0 }, { name := "UTF16", type := .byte, accessFlags := 24, slot := 6, constantValue := 0 }]
  methods := #[k8m0, k8m1, k8m2]
  instanceTypes := #[(.array .byte), .byte, .int, .boolean]
  staticTypes := #[.long, .boolean, (.array (.object "java/io/ObjectStreamField")), .char, (.object "java/util/Comparator"), .byte, .byte]
  resolved := Array.replicate 1451 none
  statics := some 0 }

def pool9 : Array CpInfo := pool [(8, .class_ 10), (1, u "java/lang/Iterable"), (24, .class_ 36), (0, u "java/lang/Object")] 25

/-- java/lang/Iterable -/
def k9 : Class := { plain "java/lang/Iterable" (some 0) with
  accessFlags := 1537
  interfaces := #[]
  cf := some (fileOf pool9 8 #[] #[] 1537 35 #[] #[])
  fields := #[]
  methods := #[]
  instanceTypes := #[]
  staticTypes := #[]
  resolved := Array.replicate 62 none
  statics := none }

def pool10 : Array CpInfo := pool [(10, .class_ 12), (1, u "java/util/Collection"), (0, u "toArray"), (46, .class_ 61), (0, u "java/lang/Object"), (0, .class_ 63), (0, u "java/lang/Iterable"), (6, u "()[Ljava/lang/Object;")] 44

def k10m0 : Method := { name := "toArray", desc := "()[Ljava/lang/Object;", sig := { parameters := [], returnType := some (.array (.object "java/lang/Object")) }, accessFlags := 1025, code := none }
/-- java/util/Collection -/
def k10 : Class := { plain "java/util/Collection" (some 0) with
  accessFlags := 1537
  interfaces := #[9]
  cf := some (fileOf pool10 10 #[] #[{ accessFlags := 1025, nameIndex := 13, descriptorIndex := 70, attributes := #[] }] 1537 60 #[62] #[])
  fields := #[]
  methods := #[k10m0]
  instanceTypes := #[]
  staticTypes := #[]
  resolved := Array.replicate 115 none
  statics := none }

def pool11 : Array CpInfo := pool [(1, .methodref 2 3), (0, .class_ 4), (0, .nameAndType 5 6), (0, u "java/lang/Object"), (0, u "<init>"), (0, u "()V"), (1, .class_ 10), (1, u "java/util/AbstractCollection"), (66, .class_ 78), (0, u "java/util/Collection")] 81

def k11c0 : Code := { maxStack := 1, maxLocals := 1, code := jdk_22_method_1_code, exceptionTable := #[], attributes := #[] }
def k11m0 : Method := { name := "<init>", desc := "()V", sig := { parameters := [], returnType := none }, accessFlags := 4, code := some k11c0 }
/-- java/util/AbstractCollection -/
def k11 : Class := { plain "java/util/AbstractCollection" (some 0) with
  accessFlags := 1057
  interfaces := #[10]
  cf := some (fileOf pool11 8 #[] #[{ accessFlags := 4, nameIndex := 5, descriptorIndex := 6, attributes := #[] }] 1057 2 #[77] #[])
  fields := #[]
  methods := #[k11m0]
  instanceTypes := #[]
  staticTypes := #[]
  resolved := Array.replicate 160 none
  statics := none }

def pool12 : Array CpInfo := pool [(8, .class_ 10), (1, u "java/util/SequencedCollection"), (15, .class_ 27), (0, u "java/lang/Object"), (0, .class_ 29), (0, u "java/util/Collection")] 27

/-- java/util/SequencedCollection -/
def k12 : Class := { plain "java/util/SequencedCollection" (some 0) with
  accessFlags := 1537
  interfaces := #[10]
  cf := some (fileOf pool12 8 #[] #[] 1537 26 #[28] #[])
  fields := #[]
  methods := #[]
  instanceTypes := #[]
  staticTypes := #[]
  resolved := Array.replicate 57 none
  statics := none }

def pool13 : Array CpInfo := pool [(8, .class_ 10), (1, u "java/util/List"), (7, u "()Z"), (41, u "add"), (3, u "(Ljava/lang/Object;)Z"), (2, u "isEmpty"), (35, .class_ 104), (0, u "java/lang/Object"), (15, .class_ 121), (0, u "java/util/SequencedCollection"), (9, u "(Ljava/util/Collection;)Z"), (1, u "addAll")] 117

def k13m0 : Method := { name := "isEmpty", desc := "()Z", sig := { parameters := [], returnType := some .boolean }, accessFlags := 1025, code := none }
def k13m1 : Method := { name := "add", desc := "(Ljava/lang/Object;)Z", sig := { parameters := [(.object "java/lang/Object")], returnType := some .boolean }, accessFlags := 1025, code := none }
def k13m2 : Method := { name := "addAll", desc := "(Ljava/util/Collection;)Z", sig := { parameters := [(.object "java/util/Collection")], returnType := some .boolean }, accessFlags := 1025, code := none }
/-- java/util/List -/
def k13 : Class := { plain "java/util/List" (some 0) with
  accessFlags := 1537
  interfaces := #[12]
  cf := some (fileOf pool13 8 #[] #[{ accessFlags := 1025, nameIndex := 67, descriptorIndex := 18, attributes := #[] }, { accessFlags := 1025, nameIndex := 60, descriptorIndex := 64, attributes := #[] }, { accessFlags := 1025, nameIndex := 133, descriptorIndex := 131, attributes := #[] }] 1537 103 #[120] #[])
  fields := #[]
  methods := #[k13m0, k13m1, k13m2]
  instanceTypes := #[]
  staticTypes := #[]
  resolved := Array.replicate 251 none
  statics := none }

def pool14 : Array CpInfo := pool [(1, .methodref 2 3), (0, .class_ 4), (0, .nameAndType 5 6), (0, u "java/util/AbstractCollection"), (0, u "<init>"), (0, u "()V"), (0, .fieldref 8 9), (0, .class_ 10), (0, .nameAndType 11 12), (0, u "java/util/AbstractList"), (0, u "modCount"), (0, u "I"), (64, .class_ 78), (0, u "java/util/AbstractList$Itr"), (3, .class_ 83), (0, u "java/util/AbstractList$ListItr"), (9, .class_ 94), (0, u "java/util/AbstractList$RandomAccessSubList"), (3, .class_ 99), (0, u "java/util/AbstractList$SubList"), (33, .class_ 134), (0, u "java/util/List"), (73, .class_ 209), (0, u "java/util/AbstractList$SubList$1"), (0, .class_ 211), (0, u "java/util/AbstractList$RandomAccessSpliterator")] 6

def k14c0 : Code := { maxStack := 2, maxLocals := 1, code := jdk_39_method_1_code, exceptionTable := #[], attributes := #[] }
def k14m0 : Method := { name := "<init>", desc := "()V", sig := { parameters := [], returnType := none }, accessFlags := 4, code := some k14c0 }
/-- java/util/AbstractList -/
def k14 : Class := { plain "java/util/AbstractList" (some 11) with
  accessFlags := 1057
  interfaces := #[13]
  cf := some (fileOf pool14 8 #[.nestMembers #[93, 98, 208, 210, 82, 77]] #[{ accessFlags := 4, nameIndex := 5, descriptorIndex := 6, attributes := #[] }] 1057 2 #[133] #[{ accessFlags := 132, nameIndex := 11, descriptorIndex := 12, attributes := #[] }])
  fields := #[{ name := "modCount", type := .int, accessFlags := 132, slot := 0, constantValue := 0 }]
  methods := #[k14m0]
  instanceTypes := #[.int]
  staticTypes := #[]
  resolved := Array.replicate 218 none
  statics := none }

def pool15 : Array CpInfo := pool [(1, .class_ 2), (0, u "java/util/RandomAccess"), (0, .class_ 4), (0, u "java/lang/Object")] 2

/-- java/util/RandomAccess -/
def k15 : Class := { plain "java/util/RandomAccess" (some 0) with
  accessFlags := 1537
  interfaces := #[]
  cf := some (fileOf pool15 1 #[] #[] 1537 3 #[] #[])
  fields := #[]
  methods := #[]
  instanceTypes := #[]
  staticTypes := #[]
  resolved := Array.replicate 7 none
  statics := none }

def pool16 : Array CpInfo := pool [(1, .class_ 2), (0, u "java/lang/Cloneable"), (0, .class_ 4), (0, u "java/lang/Object")] 2

/-- java/lang/Cloneable -/
def k16 : Class := { plain "java/lang/Cloneable" (some 0) with
  accessFlags := 1537
  interfaces := #[]
  cf := some (fileOf pool16 1 #[] #[] 1537 3 #[] #[])
  fields := #[]
  methods := #[]
  instanceTypes := #[]
  staticTypes := #[]
  resolved := Array.replicate 7 none
  statics := none }

def pool17 : Array CpInfo := pool [(1, .methodref 2 3), (0, .class_ 4), (0, .nameAndType 5 6), (0, u "java/util/AbstractList"), (0, u "<init>"), (0, u "()V"), (0, .class_ 8), (0, u "java/lang/Object"), (0, .fieldref 10 11), (0, .class_ 12), (0, .nameAndType 13 14), (0, u "java/util/ArrayList"), (0, u "elementData"), (0, u "[Ljava/lang/Object;"), (2, u "EMPTY_ELEMENTDATA"), (21, .fieldref 10 40), (0, .nameAndType 41 14), (0, u "DEFAULTCAPACITY_EMPTY_ELEMENTDATA"), (0, .interfaceMethodref 43 44), (0, .class_ 45), (0, .nameAndType 46 47), (0, u "java/util/Collection"), (0, u "toArray"), (0, u "()[Ljava/lang/Object;"), (0, .fieldref 10 49), (0, .nameAndType 50 51), (0, u "size"), (0, u "I"), (6, .class_ 60), (1, u "java/util/Arrays"), (0, u "copyOf"), (1, .fieldref 10 64), (0, .nameAndType 65 51), (0, u "modCount"), (0, .methodref 58 67), (0, .nameAndType 61 68), (0, u "([Ljava/lang/Object;I)[Ljava/lang/Object;"), (0, .methodref 10 70), (0, .nameAndType 71 72), (0, u "grow"), (0, u "(I)[Ljava/lang/Object;"), (6, .methodref 80 81), (0, .class_ 82), (0, .nameAndType 83 84), (0, u "java/lang/Math"), (0, u "max"), (0, u "(II)I"), (11, u "(Ljava/lang/Object;)Z"), (15, .methodref 113 114), (0, .class_ 115), (0, .nameAndType 116 117), (0, u "java/lang/System"), (0, u "arraycopy"), (0, u "(Ljava/lang/Object;ILjava/lang/Object;II)V"), (11, .methodref 10 130), (0, .nameAndType 71 47), (0, .methodref 10 132), (0, .nameAndType 133 134), (0, u "add"), (0, u "(Ljava/lang/Object;[Ljava/lang/Object;I)V"), (13, .class_ 149), (0, u "java/util/List"), (23, u "()Z"), (88, .class_ 263), (0, u "java/util/ArrayList$ListItr"), (3, .class_ 268), (0, u "java/util/ArrayList$Itr"), (7, .class_ 277), (0, u "java/util/ArrayList$SubList"), (12, .class_ 291), (0, u "java/util/ArrayList$ArrayListSpliterator"), (37, .class_ 330), (0, u "java/util/RandomAccess"), (0, .class_ 332), (0, u "java/lang/Cloneable"), (0, .class_ 334), (0, u "java/io/Serializable"), (0, u "serialVersionUID"), (0, u "J"), (3, u "DEFAULT_CAPACITY"), (22, u "isEmpty"), (56, u "addAll"), (0, u "(Ljava/util/Collection;)Z"), (78, .class_ 501), (0, u "java/util/ArrayList$SubList$2"), (0, .class_ 503), (0, u "java/util/ArrayList$SubList$1")] 5

def k17c0 : Code := { maxStack := 2, maxLocals := 1, code := jdk_38_method_2_code, exceptionTable := #[], attributes := #[] }
def k17m0 : Method := { name := "<init>", desc := "()V", sig := { parameters := [], returnType := none }, accessFlags := 1, code := some k17c0 }
def k17c1 : Code := { maxStack := 4, maxLocals := 4, code := jdk_38_method_6_code, exceptionTable := #[], attributes := #[] }
def k17m1 : Method := { name := "grow", desc := "(I)[Ljava/lang/Object;", sig := { parameters := [.int], returnType := some (.array (.object "java/lang/Object")) }, accessFlags := 2, code := some k17c1 }
def k17c2 : Code := { maxStack := 3, maxLocals := 1, code := jdk_38_method_7_code, exceptionTable := #[], attributes := #[] }
def k17m2 : Method := { name := "grow", desc := "()[Ljava/lang/Object;", sig := { parameters := [], returnType := some (.array (.object "java/lang/Object")) }, accessFlags := 2, code := some k17c2 }
def k17c3 : Code := { maxStack := 1, maxLocals := 1, code := jdk_38_method_9_code, exceptionTable := #[], attributes := #[] }
def k17m3 : Method := { name := "isEmpty", desc := "()Z", sig := { parameters := [], returnType := some .boolean }, accessFlags := 1, code := some k17c3 }
def k17c4 : Code := { maxStack := 2, maxLocals := 1, code := jdk_38_method_16_code, exceptionTable := #[], attributes := #[] }
def k17m4 : Method := { name := "toArray", desc := "()[Ljava/lang/Object;", sig := { parameters := [], returnType := some (.array (.object "java/lang/Object")) }, accessFlags := 1, code := some k17c4 }
def k17c5 : Code := { maxStack := 3, maxLocals := 4, code := jdk_38_method_24_code, exceptionTable := #[], attributes := #[] }
def k17m5 : Method := { name := "add", desc := "(Ljava/lang/Object;[Ljava/lang/Object;I)V", sig := { parameters := [(.object "java/lang/Object"), (.array (.object "java/lang/Object")), .int], returnType := none }, accessFlags := 2, code := some k17c5 }
def k17c6 : Code := { maxStack := 4, maxLocals := 2, code := jdk_38_method_25_code, exceptionTable := #[], attributes := #[] }
def k17m6 : Method := { name := "add", desc := "(Ljava/lang/Object;)Z", sig := { parameters := [(.object "java/lang/Object")], returnType := some .boolean }, accessFlags := 1, code := some k17c6 }
def k17c7 : Code := { maxStack := 5, maxLocals := 6, code := jdk_38_method_41_code, exceptionTable := #[], attributes := #[] }
def k17m7 : Method := { name := "addAll", desc := "(Ljava/util/Collection;)Z", sig := { parameters := [(.object "java/util/Collection")], returnType := some .boolean }, accessFlags := 1, code := some k17c7 }
/-- java/util/ArrayList -/
def k17 : Class := { plain "java/util/ArrayList" (some 14) with
  accessFlags := 33
  interfaces := #[13, 15, 16, 3]
  cf := some (fileOf pool17 10 #[.nestMembers #[290, 276, 500, 502, 262, 267]] #[{ accessFlags := 1, nameIndex := 5, descriptorIndex := 6, attributes := #[] }, { accessFlags := 2, nameIndex := 71, descriptorIndex := 72, attributes := #[] }, { accessFlags := 2, nameIndex := 71, descriptorIndex := 47, attributes := #[] }, { accessFlags := 1, nameIndex := 363, descriptorIndex := 173, attributes := #[] }, { accessFlags := 1, nameIndex := 46, descriptorIndex := 47, attributes := #[] }, { accessFlags := 2, nameIndex := 133, descriptorIndex := 134, attributes := #[] }, { accessFlags := 1, nameIndex := 133, descriptorIndex := 96, attributes := #[] }, { accessFlags := 1, nameIndex := 420, descriptorIndex := 421, attributes := #[] }] 33 2 #[148, 329, 331, 333] #[{ accessFlags := 26, nameIndex := 335, descriptorIndex := 336, attributes := #[] }, { accessFlags := 26, nameIndex := 340, descriptorIndex := 51, attributes := #[] }, { accessFlags := 26, nameIndex := 17, descriptorIndex := 14, attributes := #[] }, { accessFlags := 26, nameIndex := 41, descriptorIndex := 14, attributes := #[] }, { accessFlags := 128, nameIndex := 13, descriptorIndex := 14, attributes := #[] }, { accessFlags := 2, nameIndex := 50, descriptorIndex := 51, attributes := #[] }])
  fields := #[{ name := "serialVersionUID", type := .long, accessFlags := 26, slot := 0, constantValue := 0 }, { name := "DEFAULT_CAPACITY", type := .int, accessFlags := 26, slot := 1, constantValue := 0 }, { name := "EMPTY_ELEMENTDATA", type := (.array (.object "java/lang/Object")), accessFlags := 26, slot := 2, constantValue := 0 }, { name := "DEFAULTCAPACITY_EMPTY_ELEMENTDATA", type := (.array (.object "java/lang/Object")), accessFlags := 26, slot := 3, constantValue := 0 }, { name := "elementData", type := (.array (.object "java/lang/Object")), accessFlags := 128, slot := 1, constantValue := 0 }, { name := "size", type := .int, accessFlags := 2, slot := 2, constantValue := 0 }]
  methods := #[k17m0, k17m1, k17m2, k17m3, k17m4, k17m5, k17m6, k17m7]
  instanceTypes := #[.int, (.array (.object "java/lang/Object")), .int]
  staticTypes := #[.long, .int, (.array (.object "java/lang/Object")), (.array (.object "java/lang/Object"))]
  resolved := Array.replicate 509 none
  statics := some 1 }

def pool18 : Array CpInfo := pool [(4, .class_ 6), (1, u "java/lang/Object"), (0, u "<init>"), (0, u "()V"), (5, .class_ 16), (1, u "java/lang/StringLatin1"), (73, u "canEncode"), (14, u "(C)Z"), (15, u "$assertionsDisabled"), (0, u "Z"), (98, .class_ 223), (1, u "java/lang/StringLatin1$LinesSpliterator"), (156, u "toBytes"), (1, u "(C)[B"), (7, .class_ 391), (0, u "java/lang/StringLatin1$CharsSpliterator")] 3

def k18m0 : Method := { name := "<init>", desc := "()V", sig := { parameters := [], returnType := none }, accessFlags := 0, code := none }
def k18c1 : Code := { maxStack := 2, maxLocals := 1, code := jdk_43_method_3_code, exceptionTable := #[], attributes := #[] }
def k18m1 : Method := { name := "canEncode", desc := "(C)Z", sig := { parameters := [.char], returnType := some .boolean }, accessFlags := 9, code := some k18c1 }
def k18c2 : Code := { maxStack := 4, maxLocals := 1, code := jdk_43_method_46_code, exceptionTable := #[], attributes := #[] }
def k18m2 : Method := { name := "toBytes", desc := "(C)[B", sig := { parameters := [.char], returnType := some (.array .byte) }, accessFlags := 9, code := some k18c2 }
/-- java/lang/StringLatin1 -/
def k18 : Class := { plain "java/lang/StringLatin1" (some 0) with
  accessFlags := 48
  interfaces := #[]
  cf := some (fileOf pool18 14 #[.nestMembers #[390, 221]] #[{ accessFlags := 0, nameIndex := 7, descriptorIndex := 8, attributes := #[] }, { accessFlags := 9, nameIndex := 90, descriptorIndex := 105, attributes := #[] }, { accessFlags := 9, nameIndex := 380, descriptorIndex := 382, attributes := #[] }] 48 4 #[] #[{ accessFlags := 4120, nameIndex := 121, descriptorIndex := 122, attributes := #[] }])
  fields := #[{ name := "$assertionsDisabled", type := .boolean, accessFlags := 4120, slot := 0, constantValue := 0 }]
  methods := #[k18m0, k18m1, k18m2]
  instanceTypes := #[]
  staticTypes := #[.boolean]
  resolved := Array.replicate 395 none
  statics := none }

def pool19 : Array CpInfo := pool [(2, .class_ 4), (1, u "java/lang/Enum"), (0, u "name"), (0, u "Ljava/lang/String;"), (0, .fieldref 2 8), (0, .nameAndType 9 10), (0, u "ordinal"), (0, u "I"), (1, .class_ 14), (1, u "java/lang/Object"), (4, u "hash"), (86, .class_ 108), (1, u "java/lang/Enum$EnumDesc"), (2, .class_ 112), (0, u "java/lang/constant/Constable"), (0, .class_ 114), (0, u "java/lang/Comparable"), (0, .class_ 116), (0, u "java/io/Serializable"), (9, u "()I")] 77

def k19c0 : Code := { maxStack := 1, maxLocals := 1, code := jdk_37_method_2_code, exceptionTable := #[], attributes := #[] }
def k19m0 : Method := { name := "ordinal", desc := "()I", sig := { parameters := [], returnType := some .int }, accessFlags := 17, code := some k19c0 }
/-- java/lang/Enum -/
def k19 : Class := { plain "java/lang/Enum" (some 0) with
  accessFlags := 1057
  interfaces := #[6, 4, 3]
  cf := some (fileOf pool19 2 #[.nestMembers #[106]] #[{ accessFlags := 17, nameIndex := 9, descriptorIndex := 126, attributes := #[] }] 1057 12 #[111, 113, 115] #[{ accessFlags := 18, nameIndex := 5, descriptorIndex := 6, attributes := #[] }, { accessFlags := 18, nameIndex := 9, descriptorIndex := 10, attributes := #[] }, { accessFlags := 2, nameIndex := 19, descriptorIndex := 10, attributes := #[] }])
  fields := #[{ name := "name", type := (.object "java/lang/String"), accessFlags := 18, slot := 0, constantValue := 0 }, { name := "ordinal", type := .int, accessFlags := 18, slot := 1, constantValue := 0 }, { name := "hash", type := .int, accessFlags := 2, slot := 2, constantValue := 0 }]
  methods := #[k19m0]
  instanceTypes := #[(.object "java/lang/String"), .int, .int]
  staticTypes := #[]
  resolved := Array.replicate 204 none
  statics := none }

def pool20 : Array CpInfo := pool [(1, .class_ 2), (0, u "com/example/batchrake/batchrake/Outcome"), (2, u "DELETED"), (0, u "Lcom/example/batchrake/batchrake/Outcome;"), (2, u "NOT_FOUND"), (2, u "BAD_REQUEST"), (2, u "CONFLICT"), (2, u "STORE_ERROR"), (2, u "$VALUES"), (0, u "[Lcom/example/batchrake/batchrake/Outcome;"), (6, .class_ 31), (1, u "java/lang/Enum"), (8, u "status"), (0, u "Ljava/lang/String;")] 43

/-- com/example/batchrake/batchrake/Outcome -/
def k20 : Class := { plain "com/example/batchrake/batchrake/Outcome" (some 19) with
  accessFlags := 16432
  interfaces := #[]
  cf := some (fileOf pool20 1 #[] #[] 16432 29 #[] #[{ accessFlags := 16409, nameIndex := 5, descriptorIndex := 6, attributes := #[] }, { accessFlags := 16409, nameIndex := 9, descriptorIndex := 6, attributes := #[] }, { accessFlags := 16409, nameIndex := 12, descriptorIndex := 6, attributes := #[] }, { accessFlags := 16409, nameIndex := 15, descriptorIndex := 6, attributes := #[] }, { accessFlags := 16409, nameIndex := 18, descriptorIndex := 6, attributes := #[] }, { accessFlags := 18, nameIndex := 40, descriptorIndex := 41, attributes := #[] }, { accessFlags := 4122, nameIndex := 21, descriptorIndex := 22, attributes := #[] }])
  fields := #[{ name := "DELETED", type := (.object "com/example/batchrake/batchrake/Outcome"), accessFlags := 16409, slot := 0, constantValue := 0 }, { name := "NOT_FOUND", type := (.object "com/example/batchrake/batchrake/Outcome"), accessFlags := 16409, slot := 1, constantValue := 0 }, { name := "BAD_REQUEST", type := (.object "com/example/batchrake/batchrake/Outcome"), accessFlags := 16409, slot := 2, constantValue := 0 }, { name := "CONFLICT", type := (.object "com/example/batchrake/batchrake/Outcome"), accessFlags := 16409, slot := 3, constantValue := 0 }, { name := "STORE_ERROR", type := (.object "com/example/batchrake/batchrake/Outcome"), accessFlags := 16409, slot := 4, constantValue := 0 }, { name := "status", type := (.object "java/lang/String"), accessFlags := 18, slot := 3, constantValue := 0 }, { name := "$VALUES", type := (.array (.object "com/example/batchrake/batchrake/Outcome")), accessFlags := 4122, slot := 5, constantValue := 0 }]
  methods := #[]
  instanceTypes := #[(.object "java/lang/String"), .int, .int, (.object "java/lang/String")]
  staticTypes := #[(.object "com/example/batchrake/batchrake/Outcome"), (.object "com/example/batchrake/batchrake/Outcome"), (.object "com/example/batchrake/batchrake/Outcome"), (.object "com/example/batchrake/batchrake/Outcome"), (.object "com/example/batchrake/batchrake/Outcome"), (.array (.object "com/example/batchrake/batchrake/Outcome"))]
  resolved := Array.replicate 85 none
  statics := some 2 }

def pool21 : Array CpInfo := pool [(8, .class_ 10), (1, u "com/example/batchrake/batchrake/DeleteReport$1"), (0, u "$SwitchMap$com$example$batchrake$batchrake$Outcome"), (0, u "[I"), (13, .class_ 27), (0, u "java/lang/Object"), (8, .class_ 37), (0, u "com/example/batchrake/batchrake/DeleteReport")] 2

/-- com/example/batchrake/batchrake/DeleteReport$1 -/
def k21 : Class := { plain "com/example/batchrake/batchrake/DeleteReport$1" (some 0) with
  accessFlags := 4128
  interfaces := #[]
  cf := some (fileOf pool21 8 #[.nestHost 36] #[] 4128 26 #[] #[{ accessFlags := 4120, nameIndex := 11, descriptorIndex := 12, attributes := #[] }])
  fields := #[{ name := "$SwitchMap$com$example$batchrake$batchrake$Outcome", type := (.array .int), accessFlags := 4120, slot := 0, constantValue := 0 }]
  methods := #[]
  instanceTypes := #[]
  staticTypes := #[(.array .int)]
  resolved := Array.replicate 40 none
  statics := some 3 }

def pool22 : Array CpInfo := pool [(1, .methodref 2 3), (0, .class_ 4), (0, .nameAndType 5 6), (0, u "java/lang/Object"), (0, u "<init>"), (0, u "()V"), (0, .fieldref 8 9), (0, .class_ 10), (0, .nameAndType 11 12), (0, u "com/example/batchrake/batchrake/DeleteReport$Failure"), (0, u "name"), (0, u "Ljava/lang/String;"), (0, .fieldref 8 14), (0, .nameAndType 15 16), (0, u "outcome"), (0, u "Lcom/example/batchrake/batchrake/Outcome;"), (0, u "(Ljava/lang/String;Lcom/example/batchrake/batchrake/Outcome;)V"), (5, .class_ 24), (0, u "com/example/batchrake/batchrake/DeleteReport")] 2

def k22c0 : Code := { maxStack := 2, maxLocals := 3, code := prog_3_method_1_code, exceptionTable := #[], attributes := #[] }
def k22m0 : Method := { name := "<init>", desc := "(Ljava/lang/String;Lcom/example/batchrake/batchrake/Outcome;)V", sig := { parameters := [(.object "java/lang/String"), (.object "com/example/batchrake/batchrake/Outcome")], returnType := none }, accessFlags := 0, code := some k22c0 }
/-- com/example/batchrake/batchrake/DeleteReport$Failure -/
def k22 : Class := { plain "com/example/batchrake/batchrake/DeleteReport$Failure" (some 0) with
  accessFlags := 48
  interfaces := #[]
  cf := some (fileOf pool22 8 #[.nestHost 23] #[{ accessFlags := 0, nameIndex := 5, descriptorIndex := 17, attributes := #[] }] 48 2 #[] #[{ accessFlags := 18, nameIndex := 11, descriptorIndex := 12, attributes := #[] }, { accessFlags := 18, nameIndex := 15, descriptorIndex := 16, attributes := #[] }])
  fields := #[{ name := "name", type := (.object "java/lang/String"), accessFlags := 18, slot := 0, constantValue := 0 }, { name := "outcome", type := (.object "com/example/batchrake/batchrake/Outcome"), accessFlags := 18, slot := 1, constantValue := 0 }]
  methods := #[k22m0]
  instanceTypes := #[(.object "java/lang/String"), (.object "com/example/batchrake/batchrake/Outcome")]
  staticTypes := #[]
  resolved := Array.replicate 27 none
  statics := none }

def pool23 : Array CpInfo := pool [(1, .class_ 2), (0, u "java/lang/Math"), (1, .class_ 6), (1, u "java/lang/Object"), (0, u "<init>"), (0, u "()V"), (89, .class_ 100), (1, u "java/lang/Math$RandomNumberGeneratorHolder"), (71, u "negativeZeroFloatBits"), (0, u "J"), (2, u "negativeZeroDoubleBits"), (21, u "max"), (2, u "min"), (43, u "$assertionsDisabled"), (0, u "Z"), (88, u "(II)I"), (2, u "twoToTheDoubleScaleDown"), (0, u "D"), (4, u "twoToTheDoubleScaleUp"), (9, u "E"), (3, u "PI"), (2, u "TAU"), (2, u "DEGREES_TO_RADIANS"), (0, u "RADIANS_TO_DEGREES")] 94

def k23m0 : Method := { name := "<init>", desc := "()V", sig := { parameters := [], returnType := none }, accessFlags := 2, code := none }
def k23c1 : Code := { maxStack := 2, maxLocals := 2, code := jdk_29_method_65_code, exceptionTable := #[], attributes := #[] }
def k23m1 : Method := { name := "max", desc := "(II)I", sig := { parameters := [.int, .int], returnType := some .int }, accessFlags := 9, code := some k23c1 }
def k23c2 : Code := { maxStack := 2, maxLocals := 2, code := jdk_29_method_69_code, exceptionTable := #[], attributes := #[] }
def k23m2 : Method := { name := "min", desc := "(II)I", sig := { parameters := [.int, .int], returnType := some .int }, accessFlags := 9, code := some k23c2 }
/-- java/lang/Math -/
def k23 : Class := { plain "java/lang/Math" (some 0) with
  accessFlags := 49
  interfaces := #[]
  cf := some (fileOf pool23 1 #[.nestMembers #[98]] #[{ accessFlags := 2, nameIndex := 7, descriptorIndex := 8, attributes := #[] }, { accessFlags := 9, nameIndex := 198, descriptorIndex := 335, attributes := #[] }, { accessFlags := 9, nameIndex := 201, descriptorIndex := 335, attributes := #[] }] 49 4 #[] #[{ accessFlags := 25, nameIndex := 354, descriptorIndex := 339, attributes := #[] }, { accessFlags := 25, nameIndex := 358, descriptorIndex := 339, attributes := #[] }, { accessFlags := 25, nameIndex := 361, descriptorIndex := 339, attributes := #[] }, { accessFlags := 26, nameIndex := 364, descriptorIndex := 339, attributes := #[] }, { accessFlags := 26, nameIndex := 365, descriptorIndex := 339, attributes := #[] }, { accessFlags := 26, nameIndex := 172, descriptorIndex := 173, attributes := #[] }, { accessFlags := 26, nameIndex := 176, descriptorIndex := 173, attributes := #[] }, { accessFlags := 8, nameIndex := 344, descriptorIndex := 339, attributes := #[] }, { accessFlags := 8, nameIndex := 338, descriptorIndex := 339, attributes := #[] }, { accessFlags := 4120, nameIndex := 245, descriptorIndex := 246, attributes := #[] }])
  fields := #[{ name := "E", type := .double, accessFlags := 25, slot := 0, constantValue := 0 }, { name := "PI", type := .double, accessFlags := 25, slot := 1, constantValue := 0 }, { name := "TAU", type := .double, accessFlags := 25, slot := 2, constantValue := 0 }, { name := "DEGREES_TO_RADIANS", type := .double, accessFlags := 26, slot := 3, constantValue := 0 }, { name := "RADIANS_TO_DEGREES", type := .double, accessFlags := 26, slot := 4, constantValue := 0 }, { name := "negativeZeroFloatBits", type := .long, accessFlags := 26, slot := 5, constantValue := 0 }, { name := "negativeZeroDoubleBits", type := .long, accessFlags := 26, slot := 6, constantValue := 0 }, { name := "twoToTheDoubleScaleUp", type := .double, accessFlags := 8, slot := 7, constantValue := 0 }, { name := "twoToTheDoubleScaleDown", type := .double, accessFlags := 8, slot := 8, constantValue := 0 }, { name := "$assertionsDisabled", type := .boolean, accessFlags := 4120, slot := 9, constantValue := 0 }]
  methods := #[k23m0, k23m1, k23m2]
  instanceTypes := #[]
  staticTypes := #[.double, .double, .double, .double, .double, .long, .long, .double, .double, .boolean]
  resolved := Array.replicate 460 none
  statics := none }

def pool24 : Array CpInfo := pool [(2, .class_ 4), (1, u "java/lang/Object"), (0, u "<init>"), (0, u "()V"), (7, .class_ 16), (1, u "java/util/Arrays"), (57, .class_ 76), (1, u "java/util/Arrays$NaturalOrder"), (9, .methodref 2 87), (0, .nameAndType 88 89), (0, u "getClass"), (0, u "()Ljava/lang/Class;"), (20, .class_ 111), (0, u "[Ljava/lang/Object;"), (1, .class_ 115), (1, u "java/util/Arrays$LegacyMergeSort"), (1, u "Z"), (32, .methodref 151 152), (0, .class_ 153), (0, .nameAndType 154 155), (0, u "java/lang/System"), (0, u "arraycopy"), (0, u "(Ljava/lang/Object;ILjava/lang/Object;II)V"), (144, .methodref 14 301), (0, .nameAndType 302 303), (0, u "copyOf"), (0, u "([Ljava/lang/Object;ILjava/lang/Class;)[Ljava/lang/Object;"), (0, .methodref 305 306), (0, .class_ 307), (0, .nameAndType 308 309), (0, u "java/lang/Math"), (0, u "min"), (0, u "(II)I"), (65, .class_ 376), (0, u "java/util/Arrays$ArrayList"), (68, u "$assertionsDisabled"), (269, u "MIN_ARRAY_SORT_GRAN"), (0, u "I"), (2, u "INSERTIONSORT_THRESHOLD"), (140, u "([Ljava/lang/Object;I)[Ljava/lang/Object;"), (114, .class_ 976), (0, u "java/util/Arrays$ArrayItr")] 52

def k24m0 : Method := { name := "<init>", desc := "()V", sig := { parameters := [], returnType := none }, accessFlags := 2, code := none }
def k24c1 : Code := { maxStack := 3, maxLocals := 2, code := jdk_65_method_119_code, exceptionTable := #[], attributes := #[] }
def k24m1 : Method := { name := "copyOf", desc := "([Ljava/lang/Object;I)[Ljava/lang/Object;", sig := { parameters := [(.array (.object "java/lang/Object")), .int], returnType := some (.array (.object "java/lang/Object")) }, accessFlags := 9, code := some k24c1 }
def k24c2 : Code := { maxStack := 6, maxLocals := 4, code := jdk_65_method_120_code, exceptionTable := #[], attributes := #[] }
def k24m2 : Method := { name := "copyOf", desc := "([Ljava/lang/Object;ILjava/lang/Class;)[Ljava/lang/Object;", sig := { parameters := [(.array (.object "java/lang/Object")), .int, (.object "java/lang/Class")], returnType := some (.array (.object "java/lang/Object")) }, accessFlags := 9, code := some k24c2 }
/-- java/util/Arrays -/
def k24 : Class := { plain "java/util/Arrays" (some 0) with
  accessFlags := 49
  interfaces := #[]
  cf := some (fileOf pool24 14 #[.nestMembers #[975, 375, 113, 74]] #[{ accessFlags := 2, nameIndex := 5, descriptorIndex := 6, attributes := #[] }, { accessFlags := 9, nameIndex := 302, descriptorIndex := 860, attributes := #[] }, { accessFlags := 9, nameIndex := 302, descriptorIndex := 303, attributes := #[] }] 49 2 #[] #[{ accessFlags := 26, nameIndex := 715, descriptorIndex := 716, attributes := #[] }, { accessFlags := 26, nameIndex := 719, descriptorIndex := 716, attributes := #[] }, { accessFlags := 4120, nameIndex := 445, descriptorIndex := 117, attributes := #[] }])
  fields := #[{ name := "MIN_ARRAY_SORT_GRAN", type := .int, accessFlags := 26, slot := 0, constantValue := 0 }, { name := "INSERTIONSORT_THRESHOLD", type := .int, accessFlags := 26, slot := 1, constantValue := 0 }, { name := "$assertionsDisabled", type := .boolean, accessFlags := 4120, slot := 2, constantValue := 0 }]
  methods := #[k24m0, k24m1, k24m2]
  instanceTypes := #[]
  staticTypes := #[.int, .int, .boolean]
  resolved := Array.replicate 1029 none
  statics := none }

def pool25 : Array CpInfo := pool [(2, .class_ 4), (1, u "java/lang/Object"), (0, u "<init>"), (0, u "()V"), (1, .class_ 10), (1, u "java/lang/System"), (0, u "allowSecurityManager"), (0, u "I"), (16, u "cons"), (0, u "Ljava/io/Console;"), (77, .class_ 110), (1, u "java/lang/System$CallersHolder"), (43, u "initialErrStream"), (0, u "Ljava/io/PrintStream;"), (19, u "security"), (0, u "Ljava/lang/SecurityManager;"), (31, .class_ 209), (0, u "java/lang/System$1"), (7, u "props"), (0, u "Ljava/util/Properties;"), (2, u "lineSeparator"), (0, u "Ljava/lang/String;"), (96, .class_ 321), (1, u "java/lang/System$LoggerFinder"), (5, .class_ 328), (0, u "java/lang/System$Logger"), (67, u "err"), (2, u "out"), (91, u "notSupportedJnuEncoding"), (15, u "in"), (17, u "initialIn"), (0, u "Ljava/io/InputStream;"), (35, u "bootLayer"), (0, u "Ljava/lang/ModuleLayer;"), (99, .class_ 664), (0, u "java/lang/System$2"), (9, u "NEVER"), (2, u "MAYBE"), (49, u "arraycopy"), (0, u "(Ljava/lang/Object;ILjava/lang/Object;II)V"), (72, .class_ 802), (0, u "java/lang/System$Logger$Level")] 31

def k25m0 : Method := { name := "<init>", desc := "()V", sig := { parameters := [], returnType := none }, accessFlags := 2, code := none }
def k25m1 : Method := { name := "arraycopy", desc := "(Ljava/lang/Object;ILjava/lang/Object;II)V", sig := { parameters := [(.object "java/lang/Object"), .int, (.object "java/lang/Object"), .int, .int], returnType := none }, accessFlags := 265, code := none }
/-- java/lang/System -/
def k25 : Class := { plain "java/lang/System" (some 0) with
  accessFlags := 49
  interfaces := #[]
  cf := some (fileOf pool25 8 #[.nestMembers #[319, 327, 801, 108, 663, 208]] #[{ accessFlags := 2, nameIndex := 5, descriptorIndex := 6, attributes := #[] }, { accessFlags := 265, nameIndex := 727, descriptorIndex := 728, attributes := #[] }] 49 2 #[] #[{ accessFlags := 25, nameIndex := 507, descriptorIndex := 526, attributes := #[] }, { accessFlags := 25, nameIndex := 399, descriptorIndex := 155, attributes := #[] }, { accessFlags := 25, nameIndex := 396, descriptorIndex := 155, attributes := #[] }, { accessFlags := 10, nameIndex := 525, descriptorIndex := 526, attributes := #[] }, { accessFlags := 26, nameIndex := 674, descriptorIndex := 12, attributes := #[] }, { accessFlags := 26, nameIndex := 677, descriptorIndex := 12, attributes := #[] }, { accessFlags := 10, nameIndex := 11, descriptorIndex := 12, attributes := #[] }, { accessFlags := 74, nameIndex := 175, descriptorIndex := 176, attributes := #[] }, { accessFlags := 10, nameIndex := 491, descriptorIndex := 222, attributes := #[] }, { accessFlags := 74, nameIndex := 29, descriptorIndex := 30, attributes := #[] }, { accessFlags := 74, nameIndex := 154, descriptorIndex := 155, attributes := #[] }, { accessFlags := 10, nameIndex := 217, descriptorIndex := 218, attributes := #[] }, { accessFlags := 10, nameIndex := 221, descriptorIndex := 222, attributes := #[] }, { accessFlags := 8, nameIndex := 562, descriptorIndex := 563, attributes := #[] }])
  fields := #[{ name := "in", type := (.object "java/io/InputStream"), accessFlags := 25, slot := 0, constantValue := 0 }, { name := "out", type := (.object "java/io/PrintStream"), accessFlags := 25, slot := 1, constantValue := 0 }, { name := "err", type := (.object "java/io/PrintStream"), accessFlags := 25, slot := 2, constantValue := 0 }, { name := "initialIn", type := (.object "java/io/InputStream"), accessFlags := 10, slot := 3, constantValue := 0 }, { name := "NEVER", type := .int, accessFlags := 26, slot := 4, constantValue := 0 }, { name := "MAYBE", type := .int, accessFlags := 26, slot := 5, constantValue := 0 }, { name := "allowSecurityManager", type := .int, accessFlags := 10, slot := 6, constantValue := 0 }, { name := "security", type := (.object "java/lang/SecurityManager"), accessFlags := 74, slot := 7, constantValue := 0 }, { name := "notSupportedJnuEncoding", type := (.object "java/lang/String"), accessFlags := 10, slot := 8, constantValue := 0 }, { name := "cons", type := (.object "java/io/Console"), accessFlags := 74, slot := 9, constantValue := 0 }, { name := "initialErrStream", type := (.object "java/io/PrintStream"), accessFlags := 74, slot := 10, constantValue := 0 }, { name := "props", type := (.object "java/util/Properties"), accessFlags := 10, slot := 11, constantValue := 0 }, { name := "lineSeparator", type := (.object "java/lang/String"), accessFlags := 10, slot := 12, constantValue := 0 }, { name := "bootLayer", type := (.object "java/lang/ModuleLayer"), accessFlags := 8, slot := 13, constantValue := 0 }]
  methods := #[k25m0, k25m1]
  instanceTypes := #[]
  staticTypes := #[(.object "java/io/InputStream"), (.object "java/io/PrintStream"), (.object "java/io/PrintStream"), (.object "java/io/InputStream"), .int, .int, .int, (.object "java/lang/SecurityManager"), (.object "java/lang/String"), (.object "java/io/Console"), (.object "java/io/PrintStream"), (.object "java/util/Properties"), (.object "java/lang/String"), (.object "java/lang/ModuleLayer")]
  resolved := Array.replicate 834 none
  statics := none }

def pool26 : Array CpInfo := pool [(2, .class_ 4), (1, u "java/lang/Object"), (0, u "<init>"), (0, u "()V"), (17, .class_ 26), (1, u "jdk/internal/util/Preconditions"), (28, .class_ 56), (0, u "jdk/internal/util/Preconditions$4"), (57, .class_ 115), (0, u "jdk/internal/util/Preconditions$1"), (7, u "SIOOBE_FORMATTER"), (0, u "Ljava/util/function/BiFunction;"), (0, .class_ 126), (0, u "jdk/internal/util/Preconditions$2"), (3, u "AIOOBE_FORMATTER"), (0, .class_ 132), (0, u "jdk/internal/util/Preconditions$3"), (3, u "IOOBE_FORMATTER")] 57

def k26m0 : Method := { name := "<init>", desc := "()V", sig := { parameters := [], returnType := none }, accessFlags := 1, code := none }
/-- jdk/internal/util/Preconditions -/
def k26 : Class := { plain "jdk/internal/util/Preconditions" (some 0) with
  accessFlags := 33
  interfaces := #[]
  cf := some (fileOf pool26 24 #[.nestMembers #[55, 131, 125, 114]] #[{ accessFlags := 1, nameIndex := 5, descriptorIndex := 6, attributes := #[] }] 33 2 #[] #[{ accessFlags := 25, nameIndex := 123, descriptorIndex := 124, attributes := #[] }, { accessFlags := 25, nameIndex := 130, descriptorIndex := 124, attributes := #[] }, { accessFlags := 25, nameIndex := 136, descriptorIndex := 124, attributes := #[] }])
  fields := #[{ name := "SIOOBE_FORMATTER", type := (.object "java/util/function/BiFunction"), accessFlags := 25, slot := 0, constantValue := 0 }, { name := "AIOOBE_FORMATTER", type := (.object "java/util/function/BiFunction"), accessFlags := 25, slot := 1, constantValue := 0 }, { name := "IOOBE_FORMATTER", type := (.object "java/util/function/BiFunction"), accessFlags := 25, slot := 2, constantValue := 0 }]
  methods := #[k26m0]
  instanceTypes := #[]
  staticTypes := #[(.object "java/util/function/BiFunction"), (.object "java/util/function/BiFunction"), (.object "java/util/function/BiFunction")]
  resolved := Array.replicate 194 none
  statics := some 4 }

def pool27 : Array CpInfo := pool [(9, u "<init>"), (6, .class_ 18), (1, u "java/lang/Object"), (0, u "()V"), (1, .class_ 23), (1, u "jdk/internal/util/ArraysSupport"), (0, u "LOG2_ARRAY_LONG_INDEX_SCALE"), (0, u "I"), (2, u "U"), (0, u "Ljdk/internal/misc/Unsafe;"), (8, u "BIG_ENDIAN"), (0, u "Z"), (8, u "LOG2_BYTE_BIT_SIZE"), (4, u "LOG2_ARRAY_INT_INDEX_SCALE"), (54, u "JLA"), (0, u "Ljdk/internal/access/JavaLangAccess;"), (11, u "LOG2_ARRAY_BOOLEAN_INDEX_SCALE"), (9, u "LOG2_ARRAY_BYTE_INDEX_SCALE"), (5, u "LOG2_ARRAY_CHAR_INDEX_SCALE"), (5, u "LOG2_ARRAY_SHORT_INDEX_SCALE"), (18, u "LOG2_ARRAY_FLOAT_INDEX_SCALE"), (24, u "LOG2_ARRAY_DOUBLE_INDEX_SCALE"), (89, u "T_BOOLEAN"), (2, u "T_CHAR"), (1, u "T_FLOAT"), (1, u "T_DOUBLE"), (1, u "T_BYTE"), (1, u "T_SHORT"), (1, u "T_INT"), (1, u "T_LONG"), (1, u "SOFT_MAX_ARRAY_LENGTH")] 83

def k27m0 : Method := { name := "<init>", desc := "()V", sig := { parameters := [], returnType := none }, accessFlags := 2, code := none }
/-- jdk/internal/util/ArraysSupport -/
def k27 : Class := { plain "jdk/internal/util/ArraysSupport" (some 0) with
  accessFlags := 33
  interfaces := #[]
  cf := some (fileOf pool27 21 #[] #[{ accessFlags := 2, nameIndex := 9, descriptorIndex := 19, attributes := #[] }] 33 16 #[] #[{ accessFlags := 24, nameIndex := 28, descriptorIndex := 29, attributes := #[] }, { accessFlags := 26, nameIndex := 38, descriptorIndex := 39, attributes := #[] }, { accessFlags := 25, nameIndex := 121, descriptorIndex := 25, attributes := #[] }, { accessFlags := 25, nameIndex := 131, descriptorIndex := 25, attributes := #[] }, { accessFlags := 25, nameIndex := 137, descriptorIndex := 25, attributes := #[] }, { accessFlags := 25, nameIndex := 143, descriptorIndex := 25, attributes := #[] }, { accessFlags := 25, nameIndex := 53, descriptorIndex := 25, attributes := #[] }, { accessFlags := 25, nameIndex := 24, descriptorIndex := 25, attributes := #[] }, { accessFlags := 25, nameIndex := 162, descriptorIndex := 25, attributes := #[] }, { accessFlags := 25, nameIndex := 187, descriptorIndex := 25, attributes := #[] }, { accessFlags := 26, nameIndex := 48, descriptorIndex := 25, attributes := #[] }, { accessFlags := 25, nameIndex := 277, descriptorIndex := 25, attributes := #[] }, { accessFlags := 25, nameIndex := 280, descriptorIndex := 25, attributes := #[] }, { accessFlags := 25, nameIndex := 282, descriptorIndex := 25, attributes := #[] }, { accessFlags := 25, nameIndex := 284, descriptorIndex := 25, attributes := #[] }, { accessFlags := 25, nameIndex := 286, descriptorIndex := 25, attributes := #[] }, { accessFlags := 25, nameIndex := 288, descriptorIndex := 25, attributes := #[] }, { accessFlags := 25, nameIndex := 290, descriptorIndex := 25, attributes := #[] }, { accessFlags := 25, nameIndex := 292, descriptorIndex := 25, attributes := #[] }, { accessFlags := 26, nameIndex := 108, descriptorIndex := 109, attributes := #[] }, { accessFlags := 25, nameIndex := 294, descriptorIndex := 25, attributes := #[] }])
  fields := #[{ name := "U", type := (.object "jdk/internal/misc/Unsafe"), accessFlags := 24, slot := 0, constantValue := 0 }, { name := "BIG_ENDIAN", type := .boolean, accessFlags := 26, slot := 1, constantValue := 0 }, { name := "LOG2_ARRAY_BOOLEAN_INDEX_SCALE", type := .int, accessFlags := 25, slot := 2, constantValue := 0 }, { name := "LOG2_ARRAY_BYTE_INDEX_SCALE", type := .int, accessFlags := 25, slot := 3, constantValue := 0 }, { name := "LOG2_ARRAY_CHAR_INDEX_SCALE", type := .int, accessFlags := 25, slot := 4, constantValue := 0 }, { name := "LOG2_ARRAY_SHORT_INDEX_SCALE", type := .int, accessFlags := 25, slot := 5, constantValue := 0 }, { name := "LOG2_ARRAY_INT_INDEX_SCALE", type := .int, accessFlags := 25, slot := 6, constantValue := 0 }, { name := "LOG2_ARRAY_LONG_INDEX_SCALE", type := .int, accessFlags := 25, slot := 7, constantValue := 0 }, { name := "LOG2_ARRAY_FLOAT_INDEX_SCALE", type := .int, accessFlags := 25, slot := 8, constantValue := 0 }, { name := "LOG2_ARRAY_DOUBLE_INDEX_SCALE", type := .int, accessFlags := 25, slot := 9, constantValue := 0 }, { name := "LOG2_BYTE_BIT_SIZE", type := .int, accessFlags := 26, slot := 10, constantValue := 0 }, { name := "T_BOOLEAN", type := .int, accessFlags := 25, slot := 11, constantValue := 0 }, { name := "T_CHAR", type := .int, accessFlags := 25, slot := 12, constantValue := 0 }, { name := "T_FLOAT", type := .int, accessFlags := 25, slot := 13, constantValue := 0 }, { name := "T_DOUBLE", type := .int, accessFlags := 25, slot := 14, constantValue := 0 }, { name := "T_BYTE", type := .int, accessFlags := 25, slot := 15, constantValue := 0 }, { name := "T_SHORT", type := .int, accessFlags := 25, slot := 16, constantValue := 0 }, { name := "T_INT", type := .int, accessFlags := 25, slot := 17, constantValue := 0 }, { name := "T_LONG", type := .int, accessFlags := 25, slot := 18, constantValue := 0 }, { name := "JLA", type := (.object "jdk/internal/access/JavaLangAccess"), accessFlags := 26, slot := 19, constantValue := 0 }, { name := "SOFT_MAX_ARRAY_LENGTH", type := .int, accessFlags := 25, slot := 20, constantValue := 0 }]
  methods := #[k27m0]
  instanceTypes := #[]
  staticTypes := #[(.object "jdk/internal/misc/Unsafe"), .boolean, .int, .int, .int, .int, .int, .int, .int, .int, .int, .int, .int, .int, .int, .int, .int, .int, .int, (.object "jdk/internal/access/JavaLangAccess"), .int]
  resolved := Array.replicate 378 none
  statics := none }

def pool28 : Array CpInfo := pool [(1, u "java/lang/Class"), (0, .class_ 1), (0, u "java/lang/Object"), (0, .class_ 3)] 0

/-- java/lang/Class -/
def k28 : Class := { plain "java/lang/Class" (some 0) with
  accessFlags := 49
  interfaces := #[]
  cf := some (fileOf pool28 2 #[] #[] 49 4 #[] #[])
  fields := #[]
  methods := #[]
  instanceTypes := #[]
  staticTypes := #[]
  resolved := Array.replicate 5 none
  statics := none }

/-- the primitive byte -/
def k29 : Class := { plain "byte" none with kind := .primitive 'B', accessFlags := 0x411 }
/-- [B -/
def k30 : Class := { plain "[B" (some 0) with kind := .array 29 .byte, interfaces := #[16, 3], accessFlags := 1041 }

/-- the primitive int -/
def k31 : Class := { plain "int" none with kind := .primitive 'I', accessFlags := 0x411 }
/-- [I -/
def k32 : Class := { plain "[I" (some 0) with kind := .array 31 .int, interfaces := #[16, 3], accessFlags := 1041 }

/-- [Ljava/lang/Object; -/
def k33 : Class := { plain "[Ljava/lang/Object;" (some 0) with kind := .array 0 (.object "java/lang/Object"), interfaces := #[16, 3], accessFlags := 1041, mirror := some 5 }

def heap : Heap := #[{ cls := 8, slots := #[.long 0, .int 1, .null, .int 0, .null, .int 0, .int 0], vm := .statics 8 },
  { cls := 17, slots := #[.long 0, .int 0, .ref 12, .ref 13], vm := .statics 17 },
  { cls := 20, slots := #[.ref 7, .ref 8, .ref 9, .ref 10, .ref 11, .null], vm := .statics 20 },
  { cls := 21, slots := #[.ref 6], vm := .statics 21 },
  { cls := 26, slots := #[.null, .null, .null], vm := .statics 26 },
  { cls := 28, slots := #[], vm := .mirror 33 },
  { cls := 32, slots := #[.int 1, .int 2, .int 0, .int 0, .int 0], vm := .none },
  { cls := 20, slots := #[.null, .int 0, .int 0, .null], vm := .none },
  { cls := 20, slots := #[.null, .int 1, .int 0, .null], vm := .none },
  { cls := 20, slots := #[.null, .int 2, .int 0, .null], vm := .none },
  { cls := 20, slots := #[.null, .int 3, .int 0, .null], vm := .none },
  { cls := 20, slots := #[.null, .int 4, .int 0, .null], vm := .none },
  { cls := 33, slots := #[], vm := .none },
  { cls := 33, slots := #[], vm := .none }]
def classes : Array Class := #[k0, k1, k2, k3, k4, k5, k6, k7, k8, k9, k10, k11, k12, k13, k14, k15, k16, k17, k18, k19, k20, k21, k22, k23, k24, k25, k26, k27, k28, k29, k30, k31, k32, k33]
def interned : List (Array UInt16 × Addr) := []
def slotsUsed : Nat := 46
def theMethod : MethodId := ⟨1, 4⟩
def args0 : Array Value := #[.int 5, .int 3, .int 2, .int 1]
def aboutOver (below : List Frame) : State where
  vm := { classes := classes, interned := interned.toArray }
  heap := heap
  slotsUsed := slotsUsed
  threads := #[{ frames := .invoking theMethod args0 :: below }]
def below0 : List Frame := [.native { method := ⟨0, 0⟩, args := #[] }]
def about1 : State := aboutOver below0
def p0 : Program := .bare "" "" ""
def e0 : Env := launch0.env 0 0 0
theorem w_frames : about1.frames = Frame.invoking theMethod args0 :: below0 := rfl
set_option maxRecDepth 65536 in
theorem w_args : argsFit about1.vm theMethod args0 = true := by decide +kernel
set_option maxRecDepth 65536 in
theorem w_heap : heapFits about1 = true := by decide +kernel
set_option maxRecDepth 65536 in
theorem w_runnable : about1.curStatus? = some .runnable := by decide +kernel
set_option maxRecDepth 65536 in
theorem w_alone : about1.alone = true := by decide +kernel
set_option maxRecDepth 65536 in
theorem w_named : about1.methodNamed? x = some theMethod := by decide +kernel
set_option maxRecDepth 65536 in
theorem w_hears : about1.hears theMethod below0 = true := by decide +kernel
set_option maxRecDepth 65536 in
theorem w_ripe : about1.ripe theMethod args0 below0 = true := by decide +kernel
theorem w_running : about1.status = .running := rfl
set_option maxRecDepth 65536 in
theorem w_room : about1.hasRoom e0.platform room_1 = true :=
  launch0.hasRoom_least _ room_1 (by decide +kernel) (by decide +kernel) (by decide +kernel) (by decide +kernel) (by decide +kernel) (by decide +kernel)
theorem allAtoms_all (ts : List Jvm.Cond) (a : Array Jvm.Value) (st : Jvm.State) : (allAtoms ts).before a st = ts.all (fun c => c.before a st) := by
  induction ts with
  | nil => rfl
  | cons c t ih =>
    show (Jvm.Cond.and c (allAtoms t)).before a st = _
    rw [Jvm.Cond.before_and, ih, List.all_cons]
def words1 : List Jvm.Cond := Jvm.Cond.code x code maxLocals ret :: tables_1
/-- a 'code' word, met by the world's own term for the bytes: nothing is compared byte by byte -/
theorem code_word {y : MethodName} {bytes : ByteArray} {mx : Nat} {rt : Option FieldType} {a : Array Value} {s : State} {m : MethodId} {meth : Method} {c : Code} (h1 : s.methodNamed? y = some m) (h2 : s.vm.method? m = some meth) (h3 : meth.code = some c) (h4 : c.code = bytes)
    (h5 : (c.maxLocals == mx && c.exceptionTable.isEmpty && decide (c.maxStack ≤ mostOperands) && decide (meth.sig.returnType = rt) && !meth.locks && decide (parseMethodDescriptor y.desc = some meth.sig)) = true) : (Jvm.Cond.code y bytes mx rt).before a s = true := by
  simp only [Bool.and_eq_true, beq_iff_eq, Bool.not_eq_true', decide_eq_true_eq] at h5
  obtain ⟨⟨⟨⟨⟨g1, g2⟩, g3⟩, g4⟩, g5⟩, g6⟩ := h5
  simp [Cond.before, Cond.holds, Cond.value, h1, h2, h3, h4, g1, g2, g3, g4, g5, g6]
def isCode : Jvm.Cond → Bool
  | .code _ _ _ _ => true
  | _ => false
theorem all_split {L : List Jvm.Cond} {P : Jvm.Cond → Bool} (h1 : L.all (fun c => isCode c || P c) = true) (h2 : ∀ c ∈ L.filter isCode, P c = true) : L.all P = true := by
  refine List.all_eq_true.mpr fun c hc => ?_
  have h := List.all_eq_true.mp h1 c hc
  rcases Bool.eq_false_or_eq_true (isCode c) with hi | hi
  · exact h2 c (List.mem_filter.mpr ⟨hc, hi⟩)
  · simpa [hi] using h
set_option maxRecDepth 65536 in
theorem w_c0 : (Jvm.Cond.code x code maxLocals ret).before args0 about1 = true := code_word (m := ⟨1, 4⟩) (meth := k1m4) (c := k1c4) (by decide +kernel) rfl rfl rfl (by decide +kernel)
set_option maxRecDepth 65536 in
theorem w_c1 : (Jvm.Cond.code ({ cls := "com/example/batchrake/batchrake/DeleteReport", name := "<init>", desc := "()V" } : Jvm.MethodName) prog_1_method_1_code (1 : Nat) (Option.none : Option Jvm.ClassFile.FieldType)).before args0 about1 = true := code_word (m := ⟨2, 0⟩) (meth := k2m0) (c := k2c0) (by decide +kernel) rfl rfl rfl (by decide +kernel)
set_option maxRecDepth 65536 in
theorem w_c2 : (Jvm.Cond.code ({ cls := "com/example/batchrake/batchrake/DeleteReport", name := "<init>", desc := "(Ljava/lang/String;Ljava/lang/String;)V" } : Jvm.MethodName) prog_1_method_2_code (3 : Nat) (Option.none : Option Jvm.ClassFile.FieldType)).before args0 about1 = true := code_word (m := ⟨2, 1⟩) (meth := k2m1) (c := k2c1) (by decide +kernel) rfl rfl rfl (by decide +kernel)
set_option maxRecDepth 65536 in
theorem w_c3 : (Jvm.Cond.code ({ cls := "java/lang/Object", name := "<init>", desc := "()V" } : Jvm.MethodName) object_method_1_code (1 : Nat) (Option.none : Option Jvm.ClassFile.FieldType)).before args0 about1 = true := code_word (m := ⟨0, 0⟩) (meth := k0m0) (c := k0c0) (by decide +kernel) rfl rfl rfl (by decide +kernel)
set_option maxRecDepth 65536 in
theorem w_c4 : (Jvm.Cond.code ({ cls := "java/util/ArrayList", name := "<init>", desc := "()V" } : Jvm.MethodName) jdk_38_method_2_code (1 : Nat) (Option.none : Option Jvm.ClassFile.FieldType)).before args0 about1 = true := code_word (m := ⟨17, 0⟩) (meth := k17m0) (c := k17c0) (by decide +kernel) rfl rfl rfl (by decide +kernel)
set_option maxRecDepth 65536 in
theorem w_c5 : (Jvm.Cond.code ({ cls := "java/util/AbstractList", name := "<init>", desc := "()V" } : Jvm.MethodName) jdk_39_method_1_code (1 : Nat) (Option.none : Option Jvm.ClassFile.FieldType)).before args0 about1 = true := code_word (m := ⟨14, 0⟩) (meth := k14m0) (c := k14c0) (by decide +kernel) rfl rfl rfl (by decide +kernel)
set_option maxRecDepth 65536 in
theorem w_c6 : (Jvm.Cond.code ({ cls := "java/util/AbstractCollection", name := "<init>", desc := "()V" } : Jvm.MethodName) jdk_22_method_1_code (1 : Nat) (Option.none : Option Jvm.ClassFile.FieldType)).before args0 about1 = true := code_word (m := ⟨11, 0⟩) (meth := k11m0) (c := k11c0) (by decide +kernel) rfl rfl rfl (by decide +kernel)
set_option maxRecDepth 65536 in
theorem w_c7 : (Jvm.Cond.code ({ cls := "com/example/batchrake/batchrake/DeleteReportHasFailuresPinLaw", name := "name", desc := "(I)Ljava/lang/String;" } : Jvm.MethodName) method_3_code (1 : Nat) (Option.some (Jvm.ClassFile.FieldType.object "java/lang/String"))).before args0 about1 = true := code_word (m := ⟨1, 2⟩) (meth := k1m2) (c := k1c2) (by decide +kernel) rfl rfl rfl (by decide +kernel)
set_option maxRecDepth 65536 in
theorem w_c8 : (Jvm.Cond.code ({ cls := "java/lang/String", name := "valueOf", desc := "(C)Ljava/lang/String;" } : Jvm.MethodName) jdk_42_method_139_code (1 : Nat) (Option.some (Jvm.ClassFile.FieldType.object "java/lang/String"))).before args0 about1 = true := code_word (m := ⟨8, 1⟩) (meth := k8m1) (c := k8c1) (by decide +kernel) rfl rfl rfl (by decide +kernel)
set_option maxRecDepth 65536 in
theorem w_c9 : (Jvm.Cond.code ({ cls := "java/lang/StringLatin1", name := "canEncode", desc := "(C)Z" } : Jvm.MethodName) jdk_43_method_3_code (1 : Nat) (Option.some Jvm.ClassFile.FieldType.boolean)).before args0 about1 = true := code_word (m := ⟨18, 1⟩) (meth := k18m1) (c := k18c1) (by decide +kernel) rfl rfl rfl (by decide +kernel)
set_option maxRecDepth 65536 in
theorem w_c10 : (Jvm.Cond.code ({ cls := "java/lang/StringLatin1", name := "toBytes", desc := "(C)[B" } : Jvm.MethodName) jdk_43_method_46_code (1 : Nat) (Option.some (Jvm.ClassFile.FieldType.array Jvm.ClassFile.FieldType.byte))).before args0 about1 = true := code_word (m := ⟨18, 2⟩) (meth := k18m2) (c := k18c2) (by decide +kernel) rfl rfl rfl (by decide +kernel)
set_option maxRecDepth 65536 in
theorem w_c11 : (Jvm.Cond.code ({ cls := "java/lang/String", name := "<init>", desc := "([BB)V" } : Jvm.MethodName) jdk_42_method_151_code (3 : Nat) (Option.none : Option Jvm.ClassFile.FieldType)).before args0 about1 = true := code_word (m := ⟨8, 2⟩) (meth := k8m2) (c := k8c2) (by decide +kernel) rfl rfl rfl (by decide +kernel)
set_option maxRecDepth 65536 in
theorem w_c12 : (Jvm.Cond.code ({ cls := "com/example/batchrake/batchrake/DeleteReportHasFailuresPinLaw", name := "pick", desc := "(I)Lcom/example/batchrake/batchrake/Outcome;" } : Jvm.MethodName) method_2_code (1 : Nat) (Option.some (Jvm.ClassFile.FieldType.object "com/example/batchrake/batchrake/Outcome"))).before args0 about1 = true := code_word (m := ⟨1, 1⟩) (meth := k1m1) (c := k1c1) (by decide +kernel) rfl rfl rfl (by decide +kernel)
set_option maxRecDepth 65536 in
theorem w_c13 : (Jvm.Cond.code ({ cls := "com/example/batchrake/batchrake/DeleteReport", name := "add", desc := "(Ljava/lang/String;Lcom/example/batchrake/batchrake/Outcome;)V" } : Jvm.MethodName) prog_1_method_4_code (3 : Nat) (Option.none : Option Jvm.ClassFile.FieldType)).before args0 about1 = true := code_word (m := ⟨2, 2⟩) (meth := k2m2) (c := k2c2) (by decide +kernel) rfl rfl rfl (by decide +kernel)
set_option maxRecDepth 65536 in
theorem w_c14 : (Jvm.Cond.code ({ cls := "java/lang/Enum", name := "ordinal", desc := "()I" } : Jvm.MethodName) jdk_37_method_2_code (1 : Nat) (Option.some Jvm.ClassFile.FieldType.int)).before args0 about1 = true := code_word (m := ⟨19, 0⟩) (meth := k19m0) (c := k19c0) (by decide +kernel) rfl rfl rfl (by decide +kernel)
set_option maxRecDepth 65536 in
theorem w_c15 : (Jvm.Cond.code ({ cls := "com/example/batchrake/batchrake/DeleteReport$Failure", name := "<init>", desc := "(Ljava/lang/String;Lcom/example/batchrake/batchrake/Outcome;)V" } : Jvm.MethodName) prog_3_method_1_code (3 : Nat) (Option.none : Option Jvm.ClassFile.FieldType)).before args0 about1 = true := code_word (m := ⟨22, 0⟩) (meth := k22m0) (c := k22c0) (by decide +kernel) rfl rfl rfl (by decide +kernel)
set_option maxRecDepth 65536 in
theorem w_c16 : (Jvm.Cond.code ({ cls := "java/util/ArrayList", name := "add", desc := "(Ljava/lang/Object;)Z" } : Jvm.MethodName) jdk_38_method_25_code (2 : Nat) (Option.some Jvm.ClassFile.FieldType.boolean)).before args0 about1 = true := code_word (m := ⟨17, 6⟩) (meth := k17m6) (c := k17c6) (by decide +kernel) rfl rfl rfl (by decide +kernel)
set_option maxRecDepth 65536 in
theorem w_c17 : (Jvm.Cond.code ({ cls := "java/util/ArrayList", name := "add", desc := "(Ljava/lang/Object;[Ljava/lang/Object;I)V" } : Jvm.MethodName) jdk_38_method_24_code (4 : Nat) (Option.none : Option Jvm.ClassFile.FieldType)).before args0 about1 = true := code_word (m := ⟨17, 5⟩) (meth := k17m5) (c := k17c5) (by decide +kernel) rfl rfl rfl (by decide +kernel)
set_option maxRecDepth 65536 in
theorem w_c18 : (Jvm.Cond.code ({ cls := "java/util/ArrayList", name := "grow", desc := "()[Ljava/lang/Object;" } : Jvm.MethodName) jdk_38_method_7_code (1 : Nat) (Option.some (Jvm.ClassFile.FieldType.array (Jvm.ClassFile.FieldType.object "java/lang/Object")))).before args0 about1 = true := code_word (m := ⟨17, 2⟩) (meth := k17m2) (c := k17c2) (by decide +kernel) rfl rfl rfl (by decide +kernel)
set_option maxRecDepth 65536 in
theorem w_c19 : (Jvm.Cond.code ({ cls := "java/util/ArrayList", name := "grow", desc := "(I)[Ljava/lang/Object;" } : Jvm.MethodName) jdk_38_method_6_code (4 : Nat) (Option.some (Jvm.ClassFile.FieldType.array (Jvm.ClassFile.FieldType.object "java/lang/Object")))).before args0 about1 = true := code_word (m := ⟨17, 1⟩) (meth := k17m1) (c := k17c1) (by decide +kernel) rfl rfl rfl (by decide +kernel)
set_option maxRecDepth 65536 in
theorem w_c20 : (Jvm.Cond.code ({ cls := "java/lang/Math", name := "max", desc := "(II)I" } : Jvm.MethodName) jdk_29_method_65_code (2 : Nat) (Option.some Jvm.ClassFile.FieldType.int)).before args0 about1 = true := code_word (m := ⟨23, 1⟩) (meth := k23m1) (c := k23c1) (by decide +kernel) rfl rfl rfl (by decide +kernel)
set_option maxRecDepth 65536 in
theorem w_c21 : (Jvm.Cond.code ({ cls := "com/example/batchrake/batchrake/DeleteReport", name := "add", desc := "(Lcom/example/batchrake/batchrake/DeleteReport;)V" } : Jvm.MethodName) prog_1_method_5_code (2 : Nat) (Option.none : Option Jvm.ClassFile.FieldType)).before args0 about1 = true := code_word (m := ⟨2, 3⟩) (meth := k2m3) (c := k2c3) (by decide +kernel) rfl rfl rfl (by decide +kernel)
set_option maxRecDepth 65536 in
theorem w_c22 : (Jvm.Cond.code ({ cls := "java/util/ArrayList", name := "addAll", desc := "(Ljava/util/Collection;)Z" } : Jvm.MethodName) jdk_38_method_41_code (6 : Nat) (Option.some Jvm.ClassFile.FieldType.boolean)).before args0 about1 = true := code_word (m := ⟨17, 7⟩) (meth := k17m7) (c := k17c7) (by decide +kernel) rfl rfl rfl (by decide +kernel)
set_option maxRecDepth 65536 in
theorem w_c23 : (Jvm.Cond.code ({ cls := "java/util/ArrayList", name := "toArray", desc := "()[Ljava/lang/Object;" } : Jvm.MethodName) jdk_38_method_16_code (1 : Nat) (Option.some (Jvm.ClassFile.FieldType.array (Jvm.ClassFile.FieldType.object "java/lang/Object")))).before args0 about1 = true := code_word (m := ⟨17, 4⟩) (meth := k17m4) (c := k17c4) (by decide +kernel) rfl rfl rfl (by decide +kernel)
set_option maxRecDepth 65536 in
theorem w_c24 : (Jvm.Cond.code ({ cls := "java/util/Arrays", name := "copyOf", desc := "([Ljava/lang/Object;I)[Ljava/lang/Object;" } : Jvm.MethodName) jdk_65_method_119_code (2 : Nat) (Option.some (Jvm.ClassFile.FieldType.array (Jvm.ClassFile.FieldType.object "java/lang/Object")))).before args0 about1 = true := code_word (m := ⟨24, 1⟩) (meth := k24m1) (c := k24c1) (by decide +kernel) rfl rfl rfl (by decide +kernel)
set_option maxRecDepth 65536 in
theorem w_c25 : (Jvm.Cond.code ({ cls := "java/util/Arrays", name := "copyOf", desc := "([Ljava/lang/Object;ILjava/lang/Class;)[Ljava/lang/Object;" } : Jvm.MethodName) jdk_65_method_120_code (4 : Nat) (Option.some (Jvm.ClassFile.FieldType.array (Jvm.ClassFile.FieldType.object "java/lang/Object")))).before args0 about1 = true := code_word (m := ⟨24, 2⟩) (meth := k24m2) (c := k24c2) (by decide +kernel) rfl rfl rfl (by decide +kernel)
set_option maxRecDepth 65536 in
theorem w_c26 : (Jvm.Cond.code ({ cls := "java/lang/Math", name := "min", desc := "(II)I" } : Jvm.MethodName) jdk_29_method_69_code (2 : Nat) (Option.some Jvm.ClassFile.FieldType.int)).before args0 about1 = true := code_word (m := ⟨23, 2⟩) (meth := k23m2) (c := k23c2) (by decide +kernel) rfl rfl rfl (by decide +kernel)
set_option maxRecDepth 65536 in
theorem w_c27 : (Jvm.Cond.code ({ cls := "com/example/batchrake/batchrake/DeleteReportHasFailuresPinLaw", name := "fails", desc := "(I)Z" } : Jvm.MethodName) method_4_code (1 : Nat) (Option.some Jvm.ClassFile.FieldType.boolean)).before args0 about1 = true := code_word (m := ⟨1, 3⟩) (meth := k1m3) (c := k1c3) (by decide +kernel) rfl rfl rfl (by decide +kernel)
set_option maxRecDepth 65536 in
theorem w_c28 : (Jvm.Cond.code ({ cls := "com/example/batchrake/batchrake/DeleteReport", name := "hasFailures", desc := "()Z" } : Jvm.MethodName) prog_1_method_6_code (1 : Nat) (Option.some Jvm.ClassFile.FieldType.boolean)).before args0 about1 = true := code_word (m := ⟨2, 4⟩) (meth := k2m4) (c := k2c4) (by decide +kernel) rfl rfl rfl (by decide +kernel)
set_option maxRecDepth 65536 in
theorem w_c29 : (Jvm.Cond.code ({ cls := "java/util/ArrayList", name := "isEmpty", desc := "()Z" } : Jvm.MethodName) jdk_38_method_9_code (1 : Nat) (Option.some Jvm.ClassFile.FieldType.boolean)).before args0 about1 = true := code_word (m := ⟨17, 3⟩) (meth := k17m3) (c := k17c3) (by decide +kernel) rfl rfl rfl (by decide +kernel)
def codes1 : List Jvm.Cond := [Jvm.Cond.code x code maxLocals ret, Jvm.Cond.code ({ cls := "com/example/batchrake/batchrake/DeleteReport", name := "<init>", desc := "()V" } : Jvm.MethodName) prog_1_method_1_code (1 : Nat) (Option.none : Option Jvm.ClassFile.FieldType), Jvm.Cond.code ({ cls := "com/example/batchrake/batchrake/DeleteReport", name := "<init>", desc := "(Ljava/lang/String;Ljava/lang/String;)V" } : Jvm.MethodName) prog_1_method_2_code (3 : Nat) (Option.none : Option Jvm.ClassFile.FieldType), Jvm.Cond.code ({ cls := "java/lang/Object", name := "<init>", desc := "()V" } : Jvm.MethodName) object_method_1_code (1 : Nat) (Option.none : Option Jvm.ClassFile.FieldType), Jvm.Cond.code ({ cls := "java/util/ArrayList", name := "<init>", desc := "()V" } : Jvm.MethodName) jdk_38_method_2_code (1 : Nat) (Option.none : Option Jvm.ClassFile.FieldType), Jvm.Cond.code ({ cls := "java/util/AbstractList", name := "<init>", desc := "()V" } : Jvm.MethodName) jdk_39_method_1_code (1 : Nat) (Option.none : Option Jvm.ClassFile.FieldType), Jvm.Cond.code ({ cls := "java/util/AbstractCollection", name := "<init>", desc := "()V" } : Jvm.MethodName) jdk_22_method_1_code (1 : Nat) (Option.none : Option Jvm.ClassFile.FieldType), Jvm.Cond.code ({ cls := "com/example/batchrake/batchrake/DeleteReportHasFailuresPinLaw", name := "name", desc := "(I)Ljava/lang/String;" } : Jvm.MethodName) method_3_code (1 : Nat) (Option.some (Jvm.ClassFile.FieldType.object "java/lang/String")), Jvm.Cond.code ({ cls := "java/lang/String", name := "valueOf", desc := "(C)Ljava/lang/String;" } : Jvm.MethodName) jdk_42_method_139_code (1 : Nat) (Option.some (Jvm.ClassFile.FieldType.object "java/lang/String")), Jvm.Cond.code ({ cls := "java/lang/StringLatin1", name := "canEncode", desc := "(C)Z" } : Jvm.MethodName) jdk_43_method_3_code (1 : Nat) (Option.some Jvm.ClassFile.FieldType.boolean), Jvm.Cond.code ({ cls := "java/lang/StringLatin1", name := "toBytes", desc := "(C)[B" } : Jvm.MethodName) jdk_43_method_46_code (1 : Nat) (Option.some (Jvm.ClassFile.FieldType.array Jvm.ClassFile.FieldType.byte)), Jvm.Cond.code ({ cls := "java/lang/String", name := "<init>", desc := "([BB)V" } : Jvm.MethodName) jdk_42_method_151_code (3 : Nat) (Option.none : Option Jvm.ClassFile.FieldType), Jvm.Cond.code ({ cls := "com/example/batchrake/batchrake/DeleteReportHasFailuresPinLaw", name := "pick", desc := "(I)Lcom/example/batchrake/batchrake/Outcome;" } : Jvm.MethodName) method_2_code (1 : Nat) (Option.some (Jvm.ClassFile.FieldType.object "com/example/batchrake/batchrake/Outcome")), Jvm.Cond.code ({ cls := "com/example/batchrake/batchrake/DeleteReport", name := "add", desc := "(Ljava/lang/String;Lcom/example/batchrake/batchrake/Outcome;)V" } : Jvm.MethodName) prog_1_method_4_code (3 : Nat) (Option.none : Option Jvm.ClassFile.FieldType), Jvm.Cond.code ({ cls := "java/lang/Enum", name := "ordinal", desc := "()I" } : Jvm.MethodName) jdk_37_method_2_code (1 : Nat) (Option.some Jvm.ClassFile.FieldType.int), Jvm.Cond.code ({ cls := "com/example/batchrake/batchrake/DeleteReport$Failure", name := "<init>", desc := "(Ljava/lang/String;Lcom/example/batchrake/batchrake/Outcome;)V" } : Jvm.MethodName) prog_3_method_1_code (3 : Nat) (Option.none : Option Jvm.ClassFile.FieldType), Jvm.Cond.code ({ cls := "java/util/ArrayList", name := "add", desc := "(Ljava/lang/Object;)Z" } : Jvm.MethodName) jdk_38_method_25_code (2 : Nat) (Option.some Jvm.ClassFile.FieldType.boolean), Jvm.Cond.code ({ cls := "java/util/ArrayList", name := "add", desc := "(Ljava/lang/Object;[Ljava/lang/Object;I)V" } : Jvm.MethodName) jdk_38_method_24_code (4 : Nat) (Option.none : Option Jvm.ClassFile.FieldType), Jvm.Cond.code ({ cls := "java/util/ArrayList", name := "grow", desc := "()[Ljava/lang/Object;" } : Jvm.MethodName) jdk_38_method_7_code (1 : Nat) (Option.some (Jvm.ClassFile.FieldType.array (Jvm.ClassFile.FieldType.object "java/lang/Object"))), Jvm.Cond.code ({ cls := "java/util/ArrayList", name := "grow", desc := "(I)[Ljava/lang/Object;" } : Jvm.MethodName) jdk_38_method_6_code (4 : Nat) (Option.some (Jvm.ClassFile.FieldType.array (Jvm.ClassFile.FieldType.object "java/lang/Object"))), Jvm.Cond.code ({ cls := "java/lang/Math", name := "max", desc := "(II)I" } : Jvm.MethodName) jdk_29_method_65_code (2 : Nat) (Option.some Jvm.ClassFile.FieldType.int), Jvm.Cond.code ({ cls := "com/example/batchrake/batchrake/DeleteReport", name := "add", desc := "(Lcom/example/batchrake/batchrake/DeleteReport;)V" } : Jvm.MethodName) prog_1_method_5_code (2 : Nat) (Option.none : Option Jvm.ClassFile.FieldType), Jvm.Cond.code ({ cls := "java/util/ArrayList", name := "addAll", desc := "(Ljava/util/Collection;)Z" } : Jvm.MethodName) jdk_38_method_41_code (6 : Nat) (Option.some Jvm.ClassFile.FieldType.boolean), Jvm.Cond.code ({ cls := "java/util/ArrayList", name := "toArray", desc := "()[Ljava/lang/Object;" } : Jvm.MethodName) jdk_38_method_16_code (1 : Nat) (Option.some (Jvm.ClassFile.FieldType.array (Jvm.ClassFile.FieldType.object "java/lang/Object"))), Jvm.Cond.code ({ cls := "java/util/Arrays", name := "copyOf", desc := "([Ljava/lang/Object;I)[Ljava/lang/Object;" } : Jvm.MethodName) jdk_65_method_119_code (2 : Nat) (Option.some (Jvm.ClassFile.FieldType.array (Jvm.ClassFile.FieldType.object "java/lang/Object"))), Jvm.Cond.code ({ cls := "java/util/Arrays", name := "copyOf", desc := "([Ljava/lang/Object;ILjava/lang/Class;)[Ljava/lang/Object;" } : Jvm.MethodName) jdk_65_method_120_code (4 : Nat) (Option.some (Jvm.ClassFile.FieldType.array (Jvm.ClassFile.FieldType.object "java/lang/Object"))), Jvm.Cond.code ({ cls := "java/lang/Math", name := "min", desc := "(II)I" } : Jvm.MethodName) jdk_29_method_69_code (2 : Nat) (Option.some Jvm.ClassFile.FieldType.int), Jvm.Cond.code ({ cls := "com/example/batchrake/batchrake/DeleteReportHasFailuresPinLaw", name := "fails", desc := "(I)Z" } : Jvm.MethodName) method_4_code (1 : Nat) (Option.some Jvm.ClassFile.FieldType.boolean), Jvm.Cond.code ({ cls := "com/example/batchrake/batchrake/DeleteReport", name := "hasFailures", desc := "()Z" } : Jvm.MethodName) prog_1_method_6_code (1 : Nat) (Option.some Jvm.ClassFile.FieldType.boolean), Jvm.Cond.code ({ cls := "java/util/ArrayList", name := "isEmpty", desc := "()Z" } : Jvm.MethodName) jdk_38_method_9_code (1 : Nat) (Option.some Jvm.ClassFile.FieldType.boolean)]
set_option maxRecDepth 65536 in
theorem codes_eq : words1.filter isCode = codes1 := rfl
theorem w_codes : ∀ c ∈ words1.filter isCode, c.before args0 about1 = true := by
  rw [codes_eq]
  intro c hc
  simp only [codes1, List.mem_cons, List.not_mem_nil, or_false] at hc
  rcases hc with rfl | rfl | rfl | rfl | rfl | rfl | rfl | rfl | rfl | rfl | rfl | rfl | rfl | rfl | rfl | rfl | rfl | rfl | rfl | rfl | rfl | rfl | rfl | rfl | rfl | rfl | rfl | rfl | rfl | rfl
  · exact w_c0
  · exact w_c1
  · exact w_c2
  · exact w_c3
  · exact w_c4
  · exact w_c5
  · exact w_c6
  · exact w_c7
  · exact w_c8
  · exact w_c9
  · exact w_c10
  · exact w_c11
  · exact w_c12
  · exact w_c13
  · exact w_c14
  · exact w_c15
  · exact w_c16
  · exact w_c17
  · exact w_c18
  · exact w_c19
  · exact w_c20
  · exact w_c21
  · exact w_c22
  · exact w_c23
  · exact w_c24
  · exact w_c25
  · exact w_c26
  · exact w_c27
  · exact w_c28
  · exact w_c29
set_option maxRecDepth 65536 in
theorem w_t1 : (words1.take 24).all (fun c => isCode c || c.before args0 about1) = true := by decide +kernel
set_option maxRecDepth 65536 in
theorem w_t2 : ((words1.drop 24).take 24).all (fun c => isCode c || c.before args0 about1) = true := by decide +kernel
set_option maxRecDepth 65536 in
theorem w_t3 : (((words1.drop 24).drop 24).take 24).all (fun c => isCode c || c.before args0 about1) = true := by decide +kernel
set_option maxRecDepth 65536 in
theorem w_t4 : ((((words1.drop 24).drop 24).drop 24).take 24).all (fun c => isCode c || c.before args0 about1) = true := by decide +kernel
set_option maxRecDepth 65536 in
theorem w_t5 : (((((words1.drop 24).drop 24).drop 24).drop 24).take 24).all (fun c => isCode c || c.before args0 about1) = true := by decide +kernel
set_option maxRecDepth 65536 in
theorem w_t6 : ((((((words1.drop 24).drop 24).drop 24).drop 24).drop 24).take 24).all (fun c => isCode c || c.before args0 about1) = true := by decide +kernel
set_option maxRecDepth 65536 in
theorem w_t7 : (((((((words1.drop 24).drop 24).drop 24).drop 24).drop 24).drop 24).take 24).all (fun c => isCode c || c.before args0 about1) = true := by decide +kernel
set_option maxRecDepth 65536 in
theorem w_t8 : ((((((((words1.drop 24).drop 24).drop 24).drop 24).drop 24).drop 24).drop 24).take 24).all (fun c => isCode c || c.before args0 about1) = true := by decide +kernel
set_option maxRecDepth 65536 in
theorem w_t9 : (((((((((words1.drop 24).drop 24).drop 24).drop 24).drop 24).drop 24).drop 24).drop 24).take 24).all (fun c => isCode c || c.before args0 about1) = true := by decide +kernel
set_option maxRecDepth 65536 in
theorem w_t10 : (((((((((words1.drop 24).drop 24).drop 24).drop 24).drop 24).drop 24).drop 24).drop 24).drop 24).all (fun c => isCode c || c.before args0 about1) = true := by decide +kernel
theorem w_tables : (allAtoms (Jvm.Cond.code x code maxLocals ret :: tables_1)).before args0 about1 = true := by
  rw [allAtoms_all]
  show words1.all (fun c => c.before args0 about1) = true
  refine all_split ?_ w_codes
  rw [← List.take_append_drop 24 words1, List.all_append, w_t1, ← List.take_append_drop 24 (words1.drop 24), List.all_append, w_t2, ← List.take_append_drop 24 ((words1.drop 24).drop 24), List.all_append, w_t3, ← List.take_append_drop 24 (((words1.drop 24).drop 24).drop 24), List.all_append, w_t4, ← List.take_append_drop 24 ((((words1.drop 24).drop 24).drop 24).drop 24), List.all_append, w_t5, ← List.take_append_drop 24 (((((words1.drop 24).drop 24).drop 24).drop 24).drop 24), List.all_append, w_t6, ← List.take_append_drop 24 ((((((words1.drop 24).drop 24).drop 24).drop 24).drop 24).drop 24), List.all_append, w_t7, ← List.take_append_drop 24 (((((((words1.drop 24).drop 24).drop 24).drop 24).drop 24).drop 24).drop 24), List.all_append, w_t8, ← List.take_append_drop 24 ((((((((words1.drop 24).drop 24).drop 24).drop 24).drop 24).drop 24).drop 24).drop 24), List.all_append, w_t9, w_t10]
  rfl
set_option maxRecDepth 65536 in
theorem w_rest : rest_1_c.before args0 about1 = true := by decide +kernel
set_option maxRecDepth 65536 in
theorem w_case : (Jvm.Cond.and given_1 narrow_1).before args0 about1 = true := by decide +kernel
theorem w_applies : (headSpec (Jvm.Cond.code x code maxLocals ret :: tables_1) room_1).applies x e0.platform about1 = true :=
  (Spec.applies_iff w_frames).mpr ⟨w_running, w_runnable, w_alone, w_named, w_hears, w_ripe, w_room, w_tables⟩
theorem atStart : AtStart classFile x code maxLocals ret World_1 tables_1 room_1 Calls_1 rest_1 Pre_1 launch0 p0 e0 about1 theMethod args0 below0 :=
  ⟨lists_1, trivial, launch0.admits_env _ _ _, launch0.least_env, fairChoices_fair.cas, fairChoices_fair.clock, w_frames, w_args, w_heap, w_applies, ⟨⟨33, k33, 5, by decide +kernel, rfl, rfl, _, rfl, rfl⟩, trivial⟩, w_rest, w_case⟩
end start1
theorem witness_1 : WitnessClaimed_1 := ⟨start1.p0, start1.e0, start1.about1, start1.theMethod, start1.args0, start1.below0, start1.atStart⟩
end Jvm.Pilot.@@N@@
